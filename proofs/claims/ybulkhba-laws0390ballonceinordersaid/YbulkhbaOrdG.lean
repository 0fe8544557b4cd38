import Derived.Test.YbulkhbaDown
namespace Go.Proofs.Ybulkhba
open Go.RowKit
set_option linter.unusedVariables false
set_option linter.unusedSimpArgs false

/-! ### 'ordered', WHOLE: what arrived earlier lies in a heap, the latest run in the tail -/
structure OrdL (w : World) (ev : Value) (H : List Arr) (iv : Value) (hd : Nat) (A : List Arr) : Prop where
  heap : HeapL w ev H
  tail : LineA w iv hd A
  apart : ∀ k, ev.ownBlock = some k → iv.ownBlock ≠ some k
theorem OrdL.only {S : List Nat} {w w' : World} {ev : Value} {H : List Arr} {iv : Value} {hd : Nat} {A : List Arr} (h : OrdL w ev H iv hd A) (ho : Only S w w') (hS : ∀ k, ev.ownBlock = some k ∨ iv.ownBlock = some k → k ∉ S) : OrdL w' ev H iv hd A :=
  ⟨h.heap.only ho (fun k hk => hS k (.inl hk)), h.tail.only ho (fun k hk => hS k (.inr hk)), h.apart⟩
theorem OrdL.same {w w' : World} {ev : Value} {H : List Arr} {iv : Value} {hd : Nat} {A : List Arr} (h : OrdL w ev H iv hd A) (ho : Only [] w w') : OrdL w' ev H iv hd A := h.only ho (by simp)

def fromTail : List Arr → List Arr → Bool
  | [], _ => true
  | _ :: _, [] => false
  | h :: _, a :: _ => bf a h
/-- x goes first. -/
def OFront (H A : List Arr) (x : Arr) : Prop := (fromTail H A = true ∧ ∃ A', A = x :: A') ∨ (fromTail H A = false ∧ ∃ H', H = x :: H')
/-- x is taken out; H' and A' are left. -/
def OPop (H A : List Arr) (x : Arr) (H' A' : List Arr) : Prop :=
  (fromTail H A = true ∧ A = x :: A' ∧ H' = H) ∨ (fromTail H A = false ∧ A' = A ∧ ∃ Ht, H = x :: Ht ∧ H' = popH (x :: Ht) ((x :: Ht).getLast (by simp)))

/-- The front of the tail, in memory. -/
theorem LineA.at {w : World} {iv : Value} {hd : Nat} {x : Arr} {A : List Arr} (h : LineA w iv hd (x :: A)) :
    ∃ g cap, iv = .slice (some ⟨g, 0, none⟩) (hd + (x :: A).length) cap ∧ hd + (x :: A).length ≤ cap ∧ cap ≤ maxLen ∧ g < w.heap.size ∧ ∀ c, c < 7 → w.cell? ⟨g, hd * 7 + c, none⟩ = x.vs[c]? := by
  obtain ⟨a, cap, hv, hn, hc, hob, hnone, hsome⟩ := h.shape
  cases ha : a with
  | none => exact absurd (hnone ha).2.1 (by simp)
  | some ad =>
    obtain ⟨hag, hcap0, cur, dead, hg, hs, ht, hdl⟩ := hsome ad.block (by rw [hob, ha]; rfl)
    generalize ad.block = g at *
    rw [hag] at hv
    have hfr := LineA.front (w := w) (iv := iv) (g := g) ht hdl
    exact ⟨g, cap, hv, hn, hc, hg.lt, fun c hc => (hg.cell (hd * 7 + c)).trans (hfr c hc)⟩

set_option maxRecDepth 100000 in
set_option maxHeartbeats 800000 in
/-- (*ordered).len -/
theorem ordLen_g (T hd : Nat) (ev iv : Value) (H A : List Arr) (c3 c4 c5 c6 : Value) (w : World)
    (r0 : Row w T 140 #[ev, iv, .int .i64 hd, c3, c4, c5, c6]) (ho : OrdL w ev H iv hd A) (hl : H.length ≤ 1000000) (hl2 : A.length ≤ 1000000) :
    Calls Yba.prog 41 #[.pointer (some ⟨T, 0, none⟩)] w fun e w' => e = .returned (.int .i64 ((H.length + A.length : Nat) : Int)) ∧ ∃ k, w' = w.drewN k := by
  obtain ⟨a, cap, rfl, hn, hc, _⟩ := ho.tail.shape
  obtain ⟨a2, cap2, rfl, hn2, hc2⟩ := ho.heap.shape
  unfold maxLen at hc
  have c0 := r0.cell 0
  have c1 := r0.cell 1
  have c2 := r0.cell 2
  simp at c0 c1 c2
  have hl' : Hid (∀ W, (∃ k, W = w.drewN k) → Calls Yba.prog 58 #[.pointer (some ⟨T, 1, none⟩)] W fun e w' => e = .returned (.int .i64 A.length) ∧ ∃ k, w' = w.drewN k) := by
    rintro W ⟨k, rfl⟩
    have h := quietD ⟨_, rfl⟩ (lenA_any T 1 (hd + A.length) cap hd a (w.drewN k) (by unfold maxLen; omega) (by omega) c1 c2)
    have e : ((hd + A.length : Nat) : Int) - (hd : Int) = A.length := by omega
    rw [e] at h
    exact h
  have e3 : (H.length : Int) + A.length ≤ 2000000 := by omega
  have e4 : (0 : Int) ≤ (H.length : Int) + A.length := by omega
  clear ho r0 hn hc hn2 hc2
  go_enter Yba.func41, Yba.ntmps41
  go_wp2
  go_quiet ((go_at_call 58; exact hl'.out _ ⟨_, rfl⟩))
  go_wp2
  go_ret
  exact ⟨by simp, _, rfl⟩

set_option maxRecDepth 100000 in
set_option maxHeartbeats 1600000 in
/-- (*ordered).fromTail -/
theorem ordFrom_g (T hd : Nat) (ev iv : Value) (H A : List Arr) (c3 c4 c5 c6 : Value) (w : World)
    (r0 : Row w T 140 #[ev, iv, .int .i64 hd, c3, c4, c5, c6]) (ho : OrdL w ev H iv hd A) (hl2 : A.length ≤ 1000000) :
    Calls Yba.prog 54 #[.pointer (some ⟨T, 0, none⟩)] w fun e w' => e = .returned (.bool (fromTail H A)) ∧ ∃ k, w' = w.drewN k := by
  have c0 := r0.cell 0
  have c1 := r0.cell 1
  have c2 := r0.cell 2
  simp at c0 c1 c2
  have hlt := r0.lt
  have hlen : Hid (∀ W, (∃ k, W = w.drewN k) → Calls Yba.prog 58 #[.pointer (some ⟨T, 1, none⟩)] W fun e w' => e = .returned (.int .i64 A.length) ∧ ∃ k, w' = w.drewN k) := by
    obtain ⟨a, cap, hv, hn, hc, _⟩ := ho.tail.shape
    rintro W ⟨k, rfl⟩
    have h := quietD ⟨_, rfl⟩ (lenA_any T 1 (hd + A.length) cap hd a (w.drewN k) (by omega) (by omega) (by rw [← hv]; exact c1) c2)
    have e : ((hd + A.length : Nat) : Int) - (hd : Int) = A.length := by omega
    rw [e] at h
    exact h
  cases H with
  | nil =>
    obtain ⟨a2, cap2, rfl, hn2, hc2⟩ := ho.heap.shape
    simp only [List.length_nil] at c0
    clear ho r0 hlen c1 c2
    go_enter Yba.func54, Yba.ntmps54
    go_wp2
    go_quiet (fail)
    go_wp2
    go_ret
    exact ⟨rfl, _, rfl⟩
  | cons h H =>
    obtain ⟨gh, caph, rfl, hn2, hc2, hh⟩ := ho.heap.at (by simp)
    have e1 : (((H.length + 1 : Nat) : Int) == 0) = false := by rw [beq_eq_false_iff_ne]; omega
    have e1' : ((H.length : Int) + 1 == 0) = false := by rw [beq_eq_false_iff_ne]; omega
    cases A with
    | nil =>
      simp only [List.length_nil] at hlen
      clear ho r0 c1 c2 hh
      go_enter Yba.func54, Yba.ntmps54
      go_wp2
      go_quiet ((go_at_call 58; exact hlen.out _ ⟨_, rfl⟩))
      go_wp2
      go_ret
      exact ⟨rfl, _, rfl⟩
    | cons x A =>
      obtain ⟨g, cap, rfl, hn, hc, hgl, hx⟩ := ho.tail.at
      have hxl : (x :: A).length = A.length + 1 := rfl
      have hz : ∀ c, c < 7 → w.cell? ⟨gh, c, none⟩ = h.vs[c]? := fun c hc => by
        have h0 := hh.cell 0 (by simp) c hc
        rw [Nat.zero_mul, Nat.zero_add] at h0
        exact h0
      have VAL : Hid (∀ W, (∃ k, W = w.drewN k) → Calls Yba.prog 79 #[.pointer (some ⟨T, 1, none⟩)] W fun e w' => e = .returned (.slice (some ⟨g, hd * 7, none⟩) (A.length + 1) (cap - hd)) ∧ ∃ k, w' = w.drewN k) := by
        rintro W ⟨k, rfl⟩
        have h := quietD ⟨_, rfl⟩ (valuesA_any T 1 (hd + (x :: A).length) cap hd g (w.drewN k) (by omega) (by omega) (by omega) c1 c2)
        have e : hd + (x :: A).length - hd = A.length + 1 := by omega
        rw [e] at h
        exact h
      have BEF : Hid (∀ W, (∃ k, W = w.drewN k) → Calls Yba.prog 23 #[.pointer (some ⟨g, hd * 7, none⟩), .pointer (some ⟨gh, 0, none⟩)] W fun e w' => e = .returned (.bool (bf x h)) ∧ ∃ k, w' = w.drewN k) := by
        rintro W ⟨k, rfl⟩
        exact quietD ⟨_, rfl⟩ (before_arr g (hd * 7) gh 0 x h _ hx (fun c hc => by rw [Nat.zero_add]; exact hz c hc))
      have e2 : (0 : Int) < (A.length : Int) + 1 := by omega
      rw [hxl] at hlen
      have hcap : A.length + 1 ≤ cap - hd := by omega
      clear ho r0 hh hz hx c1 c2 hxl
      go_enter Yba.func54, Yba.ntmps54
      go_wp2
      go_quiet (first | (go_at_call 58; exact hlen.out _ ⟨_, rfl⟩) | (go_at_call 79; exact VAL.out _ ⟨_, rfl⟩) | (go_at_call 23; exact BEF.out _ ⟨_, rfl⟩))
      go_wp2
      go_ret
      exact ⟨rfl, _, rfl⟩

set_option maxRecDepth 100000 in
set_option maxHeartbeats 1600000 in
/-- (*ordered).front -/
theorem ordFront_g (T hd : Nat) (ev iv : Value) (H A : List Arr) (x : Arr) (c3 c4 c5 c6 : Value) (w : World)
    (r0 : Row w T 140 #[ev, iv, .int .i64 hd, c3, c4, c5, c6]) (ho : OrdL w ev H iv hd A) (hl2 : A.length ≤ 1000000) (hf : OFront H A x) :
    Calls Yba.prog 39 #[.pointer (some ⟨T, 0, none⟩)] w fun e w' => e = .returned (.agg x.r.vs) ∧ Below w.heap.size w w' := by
  have FT : Hid (∀ W, Only [] w W → Calls Yba.prog 54 #[.pointer (some ⟨T, 0, none⟩)] W fun e w' => e = .returned (.bool (fromTail H A)) ∧ ∃ k, w' = W.drewN k) :=
    fun W hW => ordFrom_g T hd ev iv H A c3 c4 c5 c6 W (r0.only hW (by simp)) (ho.same hW) hl2
  have hlt := r0.lt
  rcases hf with ⟨hb, A', rfl⟩ | ⟨hb, H', rfl⟩
  · rw [hb] at FT
    obtain ⟨g, cap, rfl, hn, hc, hgl, hx⟩ := ho.tail.at
    have F : Hid (∀ W, Below w.heap.size w W → Calls Yba.prog 55 #[.pointer (some ⟨T, 1, none⟩)] W fun e w' => e = .returned (.agg x.vs) ∧ Below W.heap.size W w') := by
      intro W hW
      have r0' := r0.below hW r0.lt
      have d : ∀ c, c < 7 → W.cell? ⟨g, hd * 7 + c, none⟩ = x.vs[c]? := fun c hc => (hW.cell hgl).trans (hx c hc)
      refine frontA_any T 1 (hd + (x :: A').length) cap hd g x W (by omega) (by simp) r0'.lt (Nat.lt_of_lt_of_le hgl hW.size) (by simpa using r0'.cell 1) (by simpa using r0'.cell 2) ?_ ?_ ?_ ?_ ?_ ?_ ?_
      · simpa using d 0 (by omega)
      · simpa using d 1 (by omega)
      · simpa using d 2 (by omega)
      · simpa using d 3 (by omega)
      · simpa using d 4 (by omega)
      · simpa using d 5 (by omega)
      · simpa using d 6 (by omega)
    clear hx ho hb
    go_enter Yba.func39, Yba.ntmps39
    go_wp2_with fail
    refine (FT.out _ ((Only.refl _ _).alloc _)).mono ?_
    rintro e w1 ⟨rfl, m1, rfl⟩
    go_wp2_with fail
    refine (F.out _ (below_drewN ((Below.refl _ _).alloc (Nat.le_refl _) _) _)).mono ?_
    rintro e w2 ⟨rfl, hb⟩
    have rB : Row w2 w.heap.size 83 zeroReq := ((row_new w 83 zeroReq w.heap.size rfl).drewN m1).below hb (by simp [go_sem])
    have zB := fun i => rB.cell i
    have fB := fun i => rB.frozen i
    have HB := Hid.mk (show Below w.heap.size w w2 from (below_drewN ((Below.refl _ _).alloc (Nat.le_refl _) _) _).trans (hb.mono (by simp [go_sem])))
    clear hb F rB FT
    have hf := field_req x
    go_wp2
    refine bodyPost_ret (v := .agg x.r.vs) (by simp [results, Yba.results39, go_sem, zB]) rfl ⟨rfl, ?_⟩
    exact (((((HB.out.setCell (Nat.le_refl _) _).setCell (Nat.le_refl _) _).setCell (Nat.le_refl _) _).setCell (Nat.le_refl _) _).setCell (Nat.le_refl _) _).setCell (Nat.le_refl _) _
  · rw [hb] at FT
    obtain ⟨gh, caph, rfl, hn2, hc2, hh⟩ := ho.heap.at (by simp)
    have hz : ∀ c, c < 7 → w.cell? ⟨gh, c, none⟩ = x.vs[c]? := fun c hc => by
      have h0 := hh.cell 0 (by simp) c hc
      rw [Nat.zero_mul, Nat.zero_add] at h0
      exact h0
    have hgl := hh.lt
    have x0 := hz 0 (by decide)
    have x1 := hz 1 (by decide)
    have x2 := hz 2 (by decide)
    have x3 := hz 3 (by decide)
    have x4 := hz 4 (by decide)
    have x5 := hz 5 (by decide)
    simp at x0 x1 x2 x3 x4 x5
    have k0 := r0.cell 0
    simp at k0
    clear hh hz ho hb
    go_enter Yba.func39, Yba.ntmps39
    go_wp2_with fail
    refine (FT.out _ ((Only.refl _ _).alloc _)).mono ?_
    rintro e w1 ⟨rfl, m1, rfl⟩
    clear FT
    go_wp2
    refine bodyPost_ret (v := .agg x.r.vs) (by simp [results, Yba.results39, go_sem]) rfl ⟨rfl, ?_⟩
    have HB : Below w.heap.size w ((w.alloc (.cells zeroReq 83)).drewN m1) := below_drewN ((Below.refl _ _).alloc (Nat.le_refl _) _) _
    exact (((((HB.setCell (Nat.le_refl _) _).setCell (Nat.le_refl _) _).setCell (Nat.le_refl _) _).setCell (Nat.le_refl _) _).setCell (Nat.le_refl _) _).setCell (Nat.le_refl _) _

set_option maxRecDepth 100000 in
set_option maxHeartbeats 1600000 in
/-- (*ordered).pop -/
theorem ordPop_g (T hd : Nat) (ev iv : Value) (H A H' A' : List Arr) (x : Arr) (c3 c4 c5 c6 : Value) (w : World)
    (r0 : Row w T 140 #[ev, iv, .int .i64 hd, c3, c4, c5, c6]) (ho : OrdL w ev H iv hd A) (hl1 : H.length ≤ 100000) (hl2 : A.length ≤ 1000000) (hne : iv.ownBlock ≠ some T) (hf : OPop H A x H' A') :
    Calls Yba.prog 40 #[.pointer (some ⟨T, 0, none⟩)] w fun e w' => e = .returned (.agg x.r.vs) ∧ Only (T :: (ev.ownBlock.toList ++ iv.ownBlock.toList)) w w' ∧
      ∃ ev' iv' hd', Row w' T 140 #[ev', iv', .int .i64 (hd' : Nat), c3, c4, c5, c6] ∧ OrdL w' ev' H' iv' hd' A' ∧ ev'.ownBlock = ev.ownBlock ∧ iv'.ownBlock = iv.ownBlock := by
  have FT : Hid (∀ W, Only [] w W → Calls Yba.prog 54 #[.pointer (some ⟨T, 0, none⟩)] W fun e w' => e = .returned (.bool (fromTail H A)) ∧ ∃ k, w' = W.drewN k) :=
    fun W hW => ordFrom_g T hd ev iv H A c3 c4 c5 c6 W (r0.only hW (by simp)) (ho.same hW) hl2
  have hlt := r0.lt
  have hown : ∀ k, ev.ownBlock = some k ∨ iv.ownBlock = some k → k < w.heap.size := fun k hk => by
    rcases hk with h | h
    · exact ho.heap.lt k h
    · exact ho.tail.lt k h
  have hevT : ev.ownBlock ≠ some T := ho.heap.ne r0 (by decide)
  rcases hf with ⟨hb, rfl, rfl⟩ | ⟨hb, rfl, Ht, rfl, rfl⟩
  · rw [hb] at FT
    clear hb
    go_enter Yba.func40, Yba.ntmps40
    go_wp2_with fail
    refine (FT.out _ ((Only.refl _ _).alloc _)).mono ?_
    rintro e w1 ⟨rfl, m1, rfl⟩
    go_wp2_with fail
    have o1 : Only [] w ((w.alloc (.cells zeroReq 83)).drewN m1) := ((Only.refl [] _).alloc _).drewN _
    refine (popA_line T hd iv x A' _ c3 c4 c5 c6 _ ((r0.alloc _).drewN _) (ho.tail.only o1 (by simp)) hne).mono ?_
    rintro e w2 ⟨rfl, ho2, iv', hd', hr, hl', hob⟩
    have hB : w.heap.size ∉ T :: iv.ownBlock.toList := by
      simp only [List.mem_cons, Option.mem_toList, not_or]
      exact ⟨by omega, fun h => by have := hown _ (.inr h); omega⟩
    have hH2 : HeapL w2 ev H' := (ho.heap.only o1 (by simp)).only ho2 (by
      intro k hk
      simp only [List.mem_cons, Option.mem_toList, not_or]
      exact ⟨fun e => hevT (e ▸ hk), ho.apart k hk⟩)
    have rB : Row w2 w.heap.size 83 zeroReq := ((row_new w 83 zeroReq w.heap.size rfl).drewN m1).only ho2 hB
    have zB := fun i => rB.cell i
    have fB := fun i => rB.frozen i
    have hsz : w.heap.size < w2.heap.size := rB.lt
    have HO := Hid.mk (show Only (T :: (ev.ownBlock.toList ++ iv.ownBlock.toList)) w w2 from ((((Only.refl _ _).alloc _).drewN _).trans ho2).mono (by
      intro j hj
      simp only [List.mem_cons, List.mem_append] at hj ⊢
      rcases hj with h | h <;> simp [h]))
    have RES := Hid.mk (And.intro hr (And.intro hl' (And.intro hob hH2)))
    have HW := Hid.mk (And.intro hown ho.apart)
    clear ho2 hr hl' hob ho r0 rB hown FT o1 hH2
    go_wp2
    have fin : Only [w.heap.size] w2 ((((((w2.setCell ⟨w.heap.size, 0, none⟩ (.int .i64 x.r.id)).setCell ⟨w.heap.size, 1, none⟩ (.string x.r.tn)).setCell ⟨w.heap.size, 2, none⟩ (.int .i64 x.r.tk)).setCell ⟨w.heap.size, 3, none⟩ (.int .i64 x.r.pr)).setCell ⟨w.heap.size, 4, none⟩ (.int .i64 x.r.dl)).setCell ⟨w.heap.size, 5, none⟩ (.bool x.r.hd) |>.alloc (.cells x.vs 117)) :=
      (((((((Only.refl _ _).setCell (.inl (by simp)) _).setCell (.inl (by simp)) _).setCell (.inl (by simp)) _).setCell (.inl (by simp)) _).setCell (.inl (by simp)) _).setCell (.inl (by simp)) _).alloc _
    refine bodyPost_ret (v := .agg x.r.vs) (by simp [results, Yba.results40, go_sem, zB, hsz]) rfl ⟨rfl, HO.out.then fin (by simp), ev, iv', hd', RES.out.1.only fin (by simp; omega), ⟨RES.out.2.2.2.only fin ?_, RES.out.2.1.only fin ?_, ?_⟩, rfl, RES.out.2.2.1⟩
    · intro k hk
      have := HW.out.1 k (.inl hk)
      simp
      omega
    · intro k hk
      rw [RES.out.2.2.1] at hk
      have := HW.out.1 k (.inr hk)
      simp
      omega
    · intro k hk
      rw [RES.out.2.2.1]
      exact HW.out.2 k hk
  · rw [hb] at FT
    clear hb
    go_enter Yba.func40, Yba.ntmps40
    go_wp2_with fail
    refine (FT.out _ ((Only.refl _ _).alloc _)).mono ?_
    rintro e w1 ⟨rfl, m1, rfl⟩
    go_wp2_with fail
    have o1 : Only [] w ((w.alloc (.cells zeroReq 83)).drewN m1) := ((Only.refl [] _).alloc _).drewN _
    refine (popEarlier_any T ev x Ht _ _ c3 c4 c5 c6 _ ((r0.alloc _).drewN _) (ho.heap.only o1 (by simp)) (by simp at hl1; omega)).mono ?_
    rintro e w2 ⟨rfl, ho2, ev', hr, hl', hob⟩
    have hB : w.heap.size ∉ T :: ev.ownBlock.toList := by
      simp only [List.mem_cons, Option.mem_toList, not_or]
      exact ⟨by omega, fun h => by have := hown _ (.inl h); omega⟩
    have hA2 : LineA w2 iv hd A' := (ho.tail.only o1 (by simp)).only ho2 (by
      intro k hk
      simp only [List.mem_cons, Option.mem_toList, not_or]
      exact ⟨fun e => hne (e ▸ hk), fun e => ho.apart k e hk⟩)
    have rB : Row w2 w.heap.size 83 zeroReq := ((row_new w 83 zeroReq w.heap.size rfl).drewN m1).only ho2 hB
    have zB := fun i => rB.cell i
    have fB := fun i => rB.frozen i
    have hsz : w.heap.size < w2.heap.size := rB.lt
    have HO := Hid.mk (show Only (T :: (ev.ownBlock.toList ++ iv.ownBlock.toList)) w w2 from ((((Only.refl _ _).alloc _).drewN _).trans ho2).mono (by
      intro j hj
      simp only [List.mem_cons, List.mem_append] at hj ⊢
      rcases hj with h | h <;> simp [h]))
    have RES := Hid.mk (And.intro hr (And.intro hl' (And.intro hob hA2)))
    have HW := Hid.mk (And.intro hown ho.apart)
    clear ho2 hr hl' hob ho r0 rB hown FT o1 hA2
    go_wp2
    have fin := only_setR w2 w.heap.size x.r
    refine bodyPost_ret (v := .agg x.r.vs) (by simp [results, Yba.results40, go_sem, zB, hsz]) rfl ⟨rfl, HO.out.then fin (by simp), ev', iv, hd, RES.out.1.only fin (by simp; omega), ⟨RES.out.2.1.only fin ?_, RES.out.2.2.2.only fin ?_, ?_⟩, RES.out.2.2.1, rfl⟩
    · intro k hk
      rw [RES.out.2.2.1] at hk
      have := HW.out.1 k (.inl hk)
      simp
      omega
    · intro k hk
      have := HW.out.1 k (.inr hk)
      simp
      omega
    · intro k hk
      rw [RES.out.2.2.1] at hk
      exact HW.out.2 k hk
end Go.Proofs.Ybulkhba
