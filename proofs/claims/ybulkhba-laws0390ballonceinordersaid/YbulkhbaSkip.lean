import Derived.Test.YbulkhbaTG
namespace Go.Proofs.Ybulkhba
open Go.RowKit
set_option linter.unusedVariables false
set_option linter.unusedSimpArgs false

def TG.add (k : Int) (t : TG) : TG := { t with d := t.d + k * t.q }
/-- The rotation's values, in memory. -/
theorem LineP.vals {w : World} {rv : Value} {rh : Nat} {ps : List Value} (h : LineP w rv rh ps) (hne : ps ≠ []) :
    ∃ g cap, rv = .slice (some ⟨g, 0, none⟩) (rh + ps.length) cap ∧ rh + ps.length ≤ cap ∧ cap ≤ maxLen ∧ g < w.heap.size ∧ rv.ownBlock = some g ∧ ∀ j (hj : j < ps.length), w.cell? ⟨g, rh + j, none⟩ = some ps[j] := by
  obtain ⟨a, cap, hv, hn, hc, hob, hnone, hsome⟩ := h.shape
  cases ha : a with
  | none => exact absurd (hnone ha).2.1 hne
  | some ad =>
    obtain ⟨hag, hcap0, cur, dead, hg, hs, ht, hdl⟩ := hsome ad.block (by rw [hob, ha]; rfl)
    generalize ad.block = g at *
    rw [hag] at hv
    refine ⟨g, cap, hv, hn, hc, hg.lt, by rw [hv]; rfl, fun j hj => ?_⟩
    rw [hg.cell]
    have h1 : (cur.toList.take (rh + ps.length))[rh + j]? = cur.toList[rh + j]? := List.getElem?_take_of_lt (by omega)
    rw [← Array.getElem?_toList, ← h1, ht, List.getElem?_append_right (by omega), hdl, show rh + j - rh = j by omega]
    exact List.getElem?_eq_getElem hj

set_option maxRecDepth 100000 in
set_option maxHeartbeats 3200000 in
/-- (*rotation).skipIdleRounds, where each tenant's head costs more than its deficit. -/
theorem skip_g (Q M R rh : Nat) (n m : Int) (rv : Value) (it : Bool) (rot : List TG) (ents : List (ByteArray × Nat)) (w : World) (fx : TG → Arr) (h : QG w Q M R n m rv rh it rot ents) (hne : rot ≠ []) (hlen : rot.length ≤ 1000)
    (hf : ∀ t ∈ rot, OFront t.H t.A (fx t)) (hlA : ∀ t ∈ rot, t.A.length ≤ 1000000) (hb : ∀ t ∈ rot, 0 ≤ t.d ∧ t.d < (fx t).r.tk ∧ (fx t).r.tk ≤ 100000 ∧ 1 ≤ t.q ∧ t.q ≤ 100000) :
    Calls Yba.prog 38 #[.pointer (some ⟨R, 0, none⟩)] w fun e w' => e = .returned (.tuple #[]) ∧ Only (qBlocksG Q M R rv rot) w w' ∧
      ∃ k : Nat, (∀ t ∈ rot, t.d + k * t.q < (fx t).r.tk) ∧ QG w' Q M R n m rv rh it (rot.map (TG.add k)) ents := by
  obtain ⟨g, cap, hrv, hcn, hcm, hgl, hgo, hcell⟩ := h.line.vals (by simpa using hne)
  rw [List.length_map] at hrv hcn
  have hlp : 0 < rot.length := List.length_pos_iff.2 hne
  have VAL : Hid (∀ W, QG W Q M R n m rv rh it rot ents → Calls Yba.prog 53 #[.pointer (some ⟨R, 1, none⟩)] W fun e w' => e = .returned (.slice (some ⟨g, rh, none⟩) rot.length (cap - rh)) ∧ ∃ k, w' = W.drewN k) := by
    intro W hW
    have c1 := hW.rR.cell 1
    have c2 := hW.rR.cell 2
    rw [hrv] at c1
    simp at c1 c2
    have h2 := valuesP_any R 1 (rh + rot.length) cap rh g W hcn hcm (by omega) c1 c2
    rw [show rh + rot.length - rh = rot.length by omega] at h2
    exact h2
  have HH := Hid.mk h
  have HC := Hid.mk hcell
  have HF := Hid.mk hf
  have HLA := Hid.mk hlA
  have HBB := Hid.mk hb
  have hRl := h.rR.lt
  have hcap : rot.length ≤ cap - rh := by omega
  have HGO := Hid.mk hgo
  clear hrv h hcell hf hlA hb hgo
  go_enter Yba.func38, Yba.ntmps38
  go_wp2_with fail
  refine (VAL.out _ HH.out).mono ?_
  rintro e w1 ⟨rfl, m1, rfl⟩
  go_wp2
  go_loopg [2, 13] rot.length (fun k rd i wr => ∃ (j : Nat) (rdv : Int), j + k = rot.length ∧ i = .int .i64 j ∧ rd = .int .i64 rdv ∧ 0 ≤ rdv ∧ rdv ≤ 9223372036854775807 ∧ (0 < j → rdv ≤ 100000) ∧ (∀ i (hi : i < rot.length), i < j → rot[i].d + rdv * rot[i].q < (fx rot[i]).r.tk) ∧ Below w.heap.size w wr)
  case atStart => exact ⟨0, 9223372036854775807, by omega, rfl, rfl, by omega, by omega, by omega, fun i hi h => by omega, below_drewN (Below.refl _ _) _⟩
  case round =>
    obtain ⟨j, rdv, hj, rfl, rfl, hr0, hr1, hr2, hall, hbel⟩ := hrel
    by_cases hlt : j < rot.length
    case pos =>
      obtain ⟨t, ht⟩ : ∃ t, t = rot[j] := ⟨_, rfl⟩
      have htm : t ∈ rot := by rw [ht]; exact List.getElem_mem _
      have hq := HH.out.ext hbel
      have tl := hq.tls t htm
      obtain ⟨b1, b2, b3, b4, b5⟩ := HBB.out t htm
      obtain ⟨x, hx⟩ : ∃ x, x = fx t := ⟨_, rfl⟩
      rw [← hx] at b2 b3
      have zc : wr.cell? ⟨g, rh + j, none⟩ = some (.pointer (some ⟨t.b, 0, none⟩)) := by
        have h1 := HC.out j (by simpa using hlt)
        rw [hbel.cell hgl, h1]
        simp [ht, TG.ptr]
      have ne : Nonempty (Ext wr) := ⟨⟨wr, Below.refl _ _⟩⟩
      have c0 := fun u : Ext wr => (hq.rR.ext u).cell 0
      have q6 := fun u : Ext wr => (tl.row.ext u).cell 6
      have q5 := fun u : Ext wr => (tl.row.ext u).cell 5
      simp at c0 q6 q5
      have FRO : Hid (∀ u : Ext wr, Calls Yba.prog 39 #[.pointer (some ⟨t.b, 0, none⟩)] u.1 fun e w' => e = .returned (.agg x.r.vs) ∧ Below u.1.heap.size u.1 w') :=
        fun u => ordFront_g t.b t.hd t.ev t.iv t.H t.A x _ _ _ _ u.1 (tl.row.ext u) (tl.ord.same (Only.ofBelow u.2)) (HLA.out t htm) (hx ▸ HF.out t htm)
      have HS := Hid.mk (And.intro hall (And.intro hbel (And.intro ht hx)))
      clear hall hbel tl hq ht hx htm
      go_wp2
      refine wp_region_ext (by kernel_rfl) (by kernel_rfl) ?_
      unfold InExt
      repeat (go_big_quiet_step (first | (go_at_call 39; exact quietE _ (FRO.out _)) | (go_at_call 34; exact quietE _ (cost_any x.r _))))
      refine wpQuiet_nil ?_
      rintro _ ⟨u, rfl⟩
      have p5 := q5 u
      obtain ⟨sv, hsv⟩ : ∃ sv, (x.r.tk - t.d - 1) / t.q = sv := ⟨_, rfl⟩
      have s0 : 0 ≤ sv := by rw [← hsv]; exact Int.ediv_nonneg (by omega) (by omega)
      have s1 : sv ≤ 100000 := by
        have : (x.r.tk - t.d - 1) / t.q ≤ x.r.tk - t.d - 1 := Int.ediv_le_self _ (by omega)
        omega
      have s2 : Hid (sv * t.q ≤ x.r.tk - t.d - 1) := by rw [← hsv]; exact Int.ediv_mul_le _ (by omega)
      have CL : Hid (∀ rd', 0 ≤ rd' → rd' ≤ rdv → rd' ≤ sv → ∀ i (hi : i < rot.length), i < j + 1 → rot[i].d + rd' * rot[i].q < (fx rot[i]).r.tk) := by
        intro rd' h0 h1 h2 i hi hij
        by_cases e : i = j
        · subst e
          rw [← HS.out.2.2.1, ← HS.out.2.2.2]
          have h3 : rd' * t.q ≤ sv * t.q := Int.mul_le_mul_of_nonneg_right h2 (by omega)
          have h4 := s2.out
          omega
        · have h3 := HS.out.1 i hi (by omega)
          have h4 := HBB.out rot[i] (List.getElem_mem _)
          have h5 : rd' * rot[i].q ≤ rdv * rot[i].q := Int.mul_le_mul_of_nonneg_right h1 (by omega)
          omega
      have HSV := Hid.mk hsv
      clear c0 q6 FRO ne zc q5
      go_wp2
      all_goals rename_i hmin
      · go_roundg (rot.length - j - 1)
        case measure => omega
        case rel => exact ⟨j + 1, sv, by omega, by simp, rfl, s0, by omega, fun _ => s1, CL.out sv s0 (by omega) (Int.le_refl _), HS.out.2.1.trans (u.2.mono HS.out.2.1.size)⟩
      · go_roundg (rot.length - j - 1)
        case measure => omega
        case rel => exact ⟨j + 1, rdv, by omega, by simp, rfl, hr0, hr1, fun _ => by omega, CL.out rdv hr0 (Int.le_refl _) (by omega), HS.out.2.1.trans (u.2.mono HS.out.2.1.size)⟩
    case neg =>
      have hjn : j = rot.length := by omega
      have hr3 : rdv ≤ 100000 := hr2 (by omega)
      have hall' : ∀ t ∈ rot, t.d + rdv * t.q < (fx t).r.tk := by
        intro t ht
        obtain ⟨i, hi, rfl⟩ := List.getElem_of_mem ht
        exact hall i hi (by omega)
      have HS := Hid.mk (And.intro hall' hbel)
      have hqr := Hid.mk (HH.out.ext hbel)
      have hRr : R < wr.heap.size := hqr.out.rR.lt
      have hjn' : ¬ ((j : Int) < (rot.length : Int)) := by omega
      clear hall hall' hbel hr2 hjn
      go_wp2_with fail
      refine (VAL.out _ hqr.out).mono ?_
      rintro e w1 ⟨rfl, m2, rfl⟩
      go_wp2
      go_loopg [46] rot.length (fun k i W => ∃ j : Nat, j + k = rot.length ∧ i = .int .i64 j ∧ QG W Q M R n m rv rh it ((rot.take j).map (TG.add rdv) ++ rot.drop j) ents ∧ Only (qBlocksG Q M R rv rot) w W)
      case atStart => exact ⟨0, by omega, rfl, by simpa using hqr.out.same ((Only.refl _ _).drewN _), (Only.ofBelow HS.out.2).drewN _⟩
      case round =>
        obtain ⟨i, hi, rfl, hq, ho⟩ := hrel
        have HQ := Hid.mk hq
        have HO := Hid.mk ho
        clear hq ho
        by_cases hlt2 : i < rot.length
        case neg =>
          have hin : i = rot.length := by omega
          have hin' : ¬ ((i : Int) < (rot.length : Int)) := by omega
          have RES : Hid (QG wr Q M R n m rv rh it (rot.map (TG.add (rdv.toNat : Nat))) ents) := by
            have h1 := HQ.out
            rw [hin, List.take_length, List.drop_length, List.append_nil] at h1
            rw [Int.toNat_of_nonneg hr0]
            exact h1
          have RES2 : Hid (∀ t ∈ rot, t.d + (rdv.toNat : Nat) * t.q < (fx t).r.tk) := by
            intro t ht
            rw [Int.toNat_of_nonneg hr0]
            exact HS.out.1 t ht
          clear hin
          go_wp2
          go_end0
          exact ⟨rfl, HO.out, rdv.toNat, RES2.out, RES.out⟩
        obtain ⟨t, ht⟩ : ∃ t, t = rot[i] := ⟨_, rfl⟩
        have htm : t ∈ rot := by rw [ht]; exact List.getElem_mem _
        have hdrop : rot.drop i = t :: rot.drop (i + 1) := by rw [ht]; exact List.drop_eq_getElem_cons hlt2
        have hq1 := HQ.out
        rw [hdrop] at hq1
        have tl := hq1.tls t (by simp)
        obtain ⟨b1, b2, b3, b4, b5⟩ := HBB.out t htm
        have b6 := HS.out.1 t htm
        have hm0 : 0 ≤ rdv * t.q := Int.mul_nonneg hr0 (by omega)
        have hm1 : rdv * t.q ≤ 100000 := by omega
        have zc : wr.cell? ⟨g, rh + i, none⟩ = some (.pointer (some ⟨t.b, 0, none⟩)) := by
          obtain ⟨g2, cap2, _, _, _, _, hg2, hc2⟩ := hq1.line.vals (by simp)
          rw [HGO.out] at hg2
          cases hg2
          have h1 := hc2 i (by simp; omega)
          rw [h1]
          simp [List.getElem_append_right, TG.ptr, show ¬ i < i by omega, Nat.min_eq_left (Nat.le_of_lt hlt2)]
        have q6 := tl.row.cell 6
        have q5 := tl.row.cell 5
        have f6 := tl.row.frozen 6
        simp at q6 q5
        have hbl := tl.row.lt
        have NEXT : Hid (∀ k, QG ((wr.drewN k).setCell ⟨t.b, 6, none⟩ (.int .i64 (t.d + rdv * t.q))) Q M R n m rv rh it ((rot.take (i + 1)).map (TG.add rdv) ++ rot.drop (i + 1)) ents ∧ Only (qBlocksG Q M R rv rot) w ((wr.drewN k).setCell ⟨t.b, 6, none⟩ (.int .i64 (t.d + rdv * t.q)))) := by
          intro k
          refine ⟨?_, (HO.out.drewN k).setCell (.inl ?_) _⟩
          · have h2 := (hq1.same ((Only.refl _ _).drewN k)).setDef (t.d + rdv * t.q)
            rw [List.take_succ_eq_append_getElem hlt2, List.map_append, List.append_assoc, ← ht]
            exact h2
          · simp only [qBlocksG, List.mem_cons, List.mem_append, List.mem_flatMap]
            exact .inr (.inr (.inr (.inr ⟨t, htm, by simp [TG.fp]⟩)))
        clear ht htm hdrop hq1 tl HQ
        go_wp2
        refine wp_region_drawn_tail 13 (by kernel_rfl) (by kernel_rfl) ?_
        simp only [List.take_succ_cons, List.take_zero, List.drop_succ_cons, List.drop_zero]
        repeat (go_big_quiet_step (fail))
        refine wpQuiet_nil ?_
        rintro _ ⟨m4, rfl⟩
        go_wp2
        go_roundg (rot.length - i - 1)
        case measure => omega
        case rel => exact ⟨i + 1, by omega, by simp, (NEXT.out m4).1, (NEXT.out m4).2⟩
end Go.Proofs.Ybulkhba
