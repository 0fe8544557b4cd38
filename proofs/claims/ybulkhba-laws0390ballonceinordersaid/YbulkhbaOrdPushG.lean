import Derived.Test.YbulkhbaOrdG
import Derived.Test.YbulkhbaPopSt
namespace Go.Proofs.Ybulkhba
open Go.RowKit
set_option linter.unusedVariables false
set_option linter.unusedSimpArgs false

/-- (*ordered).push, plain. -/
def oPush (H A : List Arr) (r : Req) (n : Nat) : List Arr × List Arr :=
  match A with
  | [] => (H, [⟨r, n⟩])
  | y :: A' => if rankI y.r.pr y.r.dl y.r.hd r.pr r.dl r.hd = 0 then (H, (y :: A') ++ [⟨r, n⟩]) else ((y :: A').foldl pushH H, [⟨r, n⟩])

structure PuSt (w W : World) (T B n : Nat) (c4 c5 c6 : Value) (r : Req) (ev iv ev1 iv1 : Value) (hd1 : Nat) (H1 A1 : List Arr) : Prop where
  o : Only (T :: (ev.ownBlock.toList ++ iv.ownBlock.toList)) w W
  rT : Row W T 140 #[ev1, iv1, .int .i64 hd1, .int .u64 n, c4, c5, c6]
  rB : Row W B 83 r.vs
  ol : OrdL W ev1 H1 iv1 hd1 A1
  ivo : iv1.ownBlock = iv.ownBlock
  evn : ∀ k, ev1.ownBlock = some k → ev.ownBlock = some k ∨ w.heap.size ≤ k
theorem PuSt.same {w W W' : World} {T B n : Nat} {c4 c5 c6 : Value} {r : Req} {ev iv ev1 iv1 : Value} {hd1 : Nat} {H1 A1 : List Arr} (h : PuSt w W T B n c4 c5 c6 r ev iv ev1 iv1 hd1 H1 A1) (ho : Only [] W W') : PuSt w W' T B n c4 c5 c6 r ev iv ev1 iv1 hd1 H1 A1 :=
  ⟨h.o.trans (ho.mono (by simp)), h.rT.only ho (by simp), h.rB.only ho (by simp), h.ol.same ho, h.ivo, h.evn⟩
theorem PuSt.popped {w W W' : World} {T B n : Nat} {c4 c5 c6 : Value} {r : Req} {ev iv ev1 iv1 iv' : Value} {hd1 hd' : Nat} {H1 A1 A2 : List Arr} (h : PuSt w W T B n c4 c5 c6 r ev iv ev1 iv1 hd1 H1 A1)
    (ho : Only (T :: iv1.ownBlock.toList) W W') (hr : Row W' T 140 #[ev1, iv', .int .i64 (hd' : Nat), .int .u64 n, c4, c5, c6]) (hl : LineA W' iv' hd' A2) (hob : iv'.ownBlock = iv1.ownBlock) :
    PuSt w W' T B n c4 c5 c6 r ev iv ev1 iv' hd' H1 A2 := by
  have hB : B ∉ T :: iv1.ownBlock.toList := by
    simp only [List.mem_cons, Option.mem_toList, not_or]
    exact ⟨h.rB.ne h.rT (by decide), fun e => h.ol.tail.ne h.rB (by decide) e⟩
  refine ⟨h.o.trans (ho.mono ?_), hr, h.rB.only ho hB, ⟨h.ol.heap.only ho ?_, hl, fun k hk => by rw [hob]; exact h.ol.apart k hk⟩, hob.trans h.ivo, h.evn⟩
  · intro j hj
    rw [h.ivo] at hj
    simp only [List.mem_cons, List.mem_append] at hj ⊢
    rcases hj with h | h <;> simp [h]
  · intro k hk
    simp only [List.mem_cons, Option.mem_toList, not_or]
    exact ⟨fun e => h.ol.heap.ne h.rT (by decide) (e ▸ hk), h.ol.apart k hk⟩
theorem PuSt.pushed {w W W' : World} {T B n : Nat} {c4 c5 c6 : Value} {r : Req} {ev iv ev1 iv1 ev' : Value} {hd1 : Nat} {H1 A1 H2 : List Arr} (h : PuSt w W T B n c4 c5 c6 r ev iv ev1 iv1 hd1 H1 A1) (hne : iv.ownBlock ≠ some T)
    (ho : Only (T :: ev1.ownBlock.toList) W W') (hr : Row W' T 140 #[ev', iv1, .int .i64 hd1, .int .u64 n, c4, c5, c6]) (hl : HeapL W' ev' H2) (hn : ∀ k, ev'.ownBlock = some k → ev1.ownBlock = some k ∨ W.heap.size ≤ k) :
    PuSt w W' T B n c4 c5 c6 r ev iv ev' iv1 hd1 H2 A1 := by
  have hB : B ∉ T :: ev1.ownBlock.toList := by
    simp only [List.mem_cons, Option.mem_toList, not_or]
    exact ⟨h.rB.ne h.rT (by decide), fun e => h.ol.heap.ne h.rB (by decide) e⟩
  refine ⟨h.o.then ho ?_, hr, h.rB.only ho hB, ⟨hl, h.ol.tail.only ho ?_, ?_⟩, h.ivo, ?_⟩
  · intro j hj
    simp only [List.mem_cons, List.mem_append, Option.mem_toList] at hj ⊢
    rcases hj with e | e
    · exact .inl (.inl e)
    · rcases h.evn j e with e2 | e2
      · exact .inl (.inr (.inl e2))
      · exact .inr e2
  · intro k hk
    simp only [List.mem_cons, Option.mem_toList, not_or]
    exact ⟨fun e => hne (by rw [← h.ivo, ← e]; exact hk), fun e => h.ol.apart k e hk⟩
  · intro k hk hk'
    rcases hn k hk with e | e
    · exact h.ol.apart k e hk'
    · have := h.ol.tail.lt k hk'; omega
  · intro k hk
    rcases hn k hk with e | e
    · exact h.evn k e
    · exact .inr (Nat.le_trans h.o.size e)
theorem PuSt.done {w W W' : World} {T B n : Nat} {c4 c5 c6 : Value} {r : Req} {ev iv ev1 iv1 iv' : Value} {H1 A1 A2 : List Arr} (h : PuSt w W T B n c4 c5 c6 r ev iv ev1 iv1 0 H1 A1) (hne : iv.ownBlock ≠ some T)
    (ho : Only (T :: iv1.ownBlock.toList) W W') (hr : Row W' T 140 #[ev1, iv', .int .i64 0, .int .u64 n, c4, c5, c6]) (hl : LineA W' iv' 0 A2) (hn : ∀ k, iv'.ownBlock = some k → iv1.ownBlock = some k ∨ W.heap.size ≤ k) :
    Only (T :: (ev.ownBlock.toList ++ iv.ownBlock.toList)) w (W'.setCell ⟨T, 3, none⟩ (.int .u64 ((n : Int) + 1))) ∧
      ∃ ev' iv', Row (W'.setCell ⟨T, 3, none⟩ (.int .u64 ((n : Int) + 1))) T 140 #[ev', iv', .int .i64 0, .int .u64 ((n : Int) + 1), c4, c5, c6] ∧ OrdL (W'.setCell ⟨T, 3, none⟩ (.int .u64 ((n : Int) + 1))) ev' H1 iv' 0 A2 ∧
        (∀ k, ev'.ownBlock = some k → ev.ownBlock = some k ∨ w.heap.size ≤ k) ∧ (∀ k, iv'.ownBlock = some k → iv.ownBlock = some k ∨ w.heap.size ≤ k) := by
  have hh : HeapL W' ev1 H1 := h.ol.heap.only ho (by
    intro k hk
    simp only [List.mem_cons, Option.mem_toList, not_or]
    exact ⟨fun e => h.ol.heap.ne h.rT (by decide) (e ▸ hk), h.ol.apart k hk⟩)
  have hs : Only [T] W' (W'.setCell ⟨T, 3, none⟩ (.int .u64 ((n : Int) + 1))) := (Only.refl _ _).setCell (by simp) _
  refine ⟨(h.o.trans (ho.mono ?_)).trans (hs.mono (by simp)), ev1, iv', by simpa using hr.set 3 (.int .u64 ((n : Int) + 1)), ⟨hh.only hs ?_, hl.only hs ?_, ?_⟩, h.evn, ?_⟩
  · intro j hj
    rw [h.ivo] at hj
    simp only [List.mem_cons, List.mem_append] at hj ⊢
    rcases hj with h | h <;> simp [h]
  · intro k hk; simp; rintro rfl; exact hh.ne hr (by decide) hk
  · intro k hk; simp; rintro rfl; exact hl.ne hr (by decide) hk
  · intro k hk hk'
    rcases hn k hk' with e | e
    · exact h.ol.apart k hk e
    · have := h.ol.heap.lt k hk; omega
  · intro k hk
    rcases hn k hk with e | e
    · exact .inl (h.ivo ▸ e)
    · exact .inr (Nat.le_trans h.o.size e)

set_option maxRecDepth 100000 in
set_option maxHeartbeats 3200000 in
/-- (*ordered).push -/
theorem ordPush_g (T : Nat) (ev iv : Value) (r : Req) (n : Nat) (H A : List Arr) (c4 c5 c6 : Value) (w : World)
    (r0 : Row w T 140 #[ev, iv, .int .i64 0, .int .u64 n, c4, c5, c6]) (hl : OrdL w ev H iv 0 A) (hne : iv.ownBlock ≠ some T) (hA : A.length ≤ 10000) (hH : H.length ≤ 10000) (hn : n ≤ 1000000) :
    Calls Yba.prog 52 #[.pointer (some ⟨T, 0, none⟩), .agg r.vs] w fun e w' => e = .returned (.tuple #[]) ∧ Only (T :: (ev.ownBlock.toList ++ iv.ownBlock.toList)) w w' ∧
      ∃ ev' iv', Row w' T 140 #[ev', iv', .int .i64 0, .int .u64 ((n : Int) + 1), c4, c5, c6] ∧ OrdL w' ev' (oPush H A r n).1 iv' 0 (oPush H A r n).2 ∧
        (∀ k, ev'.ownBlock = some k → ev.ownBlock = some k ∨ w.heap.size ≤ k) ∧ (∀ k, iv'.ownBlock = some k → iv.ownBlock = some k ∨ w.heap.size ≤ k) := by
  have hlt := r0.lt
  have hn1 : (n : Int) ≤ 1000000 := by omega
  have hn0 : (0 : Int) ≤ n := by omega
  have HNE := Hid.mk hne
  have P0 : Hid (∀ W, Only [] w W → Row W w.heap.size 83 r.vs → PuSt w W T w.heap.size n c4 c5 c6 r ev iv ev iv 0 H A) := fun W hW hr =>
    ⟨hW.mono (by simp), r0.only hW (by simp), hr, hl.same hW, rfl, fun k hk => .inl hk⟩
  have LEN : Hid (∀ W ev1 iv1 hd1 H1 A1, PuSt w W T w.heap.size n c4 c5 c6 r ev iv ev1 iv1 hd1 H1 A1 → Calls Yba.prog 58 #[.pointer (some ⟨T, 1, none⟩)] W fun e w' => e = .returned (.int .i64 A1.length) ∧ ∃ k, w' = W.drewN k) := by
    intro W ev1 iv1 hd1 H1 A1 hP
    obtain ⟨a, cap, hv, hcn, hc, _⟩ := hP.ol.tail.shape
    have c1 := hP.rT.cell 1
    have c2 := hP.rT.cell 2
    simp at c1 c2
    have h := lenA_any T 1 (hd1 + A1.length) cap hd1 a W (by omega) (by omega) (by rw [← hv]; exact c1) c2
    have e : ((hd1 + A1.length : Nat) : Int) - (hd1 : Int) = A1.length := by omega
    rw [e] at h
    exact h
  cases A with
  | nil =>
    have HRES : Hid (oPush H [] r n = (H, [] ++ [⟨r, n⟩])) := Hid.mk rfl
    go_enter Yba.func52, Yba.ntmps52
    go_wp2_with fail
    refine (LEN.out _ _ _ _ _ _ (P0.out _ ((Only.refl _ _).alloc _) (row_new _ _ _ _ rfl))).mono ?_
    rintro e w1 ⟨rfl, m1, rfl⟩
    go_wp2_with fail
    refine wp_world (fun W => PuSt w W T w.heap.size n c4 c5 c6 r ev iv ev iv 0 H []) (P0.out _ (((Only.refl _ _).alloc _).drewN m1) ((row_new _ _ _ _ rfl).drewN m1)) ?_
    rintro W hP
    have HP := Hid.mk hP
    clear hP P0 LEN r0 hl
    generalize hB : w.heap.size = B at HP ⊢
    have HB := Hid.mk hB
    clear hB
    have k3 := HP.out.rT.cell 3
    have z2 := fun i => HP.out.rB.cell i
    simp at k3
    have hBW : B < W.heap.size := HP.out.rB.lt
    have hTW : T < W.heap.size := HP.out.rT.lt
    have PU : Hid (∀ m, Calls Yba.prog 81 #[.pointer (some ⟨T, 1, none⟩), .agg (Arr.vs ⟨r, n⟩)] (W.drewN m) fun e w' => e = .returned (.tuple #[]) ∧ w'.cell? ⟨T, 3, none⟩ = some (.int .u64 n) ∧ w'.frozen? ⟨T, 3, none⟩ = false ∧
        Only (T :: (ev.ownBlock.toList ++ iv.ownBlock.toList)) w (w'.setCell ⟨T, 3, none⟩ (.int .u64 ((n : Int) + 1))) ∧
        ∃ ev' iv', Row (w'.setCell ⟨T, 3, none⟩ (.int .u64 ((n : Int) + 1))) T 140 #[ev', iv', .int .i64 0, .int .u64 ((n : Int) + 1), c4, c5, c6] ∧ OrdL (w'.setCell ⟨T, 3, none⟩ (.int .u64 ((n : Int) + 1))) ev' H iv' 0 ([] ++ [⟨r, n⟩]) ∧
          (∀ k, ev'.ownBlock = some k → ev.ownBlock = some k ∨ w.heap.size ≤ k) ∧ (∀ k, iv'.ownBlock = some k → iv.ownBlock = some k ∨ w.heap.size ≤ k)) := by
      intro m
      have hP := HP.out.same ((Only.refl [] W).drewN m)
      refine (pushA_line T iv ⟨r, n⟩ [] _ _ c4 c5 c6 _ hP.rT hP.ol.tail (by rw [hP.ivo]; exact HNE.out) (by simp)).mono ?_
      rintro e w' ⟨rfl, ho, iv', hr, hl, hn⟩
      exact ⟨rfl, by simpa using hr.cell 3, hr.frozen 3, hP.done HNE.out ho hr hl hn⟩
    refine wp_region_drawn_tail 9 (by kernel_rfl) (by kernel_rfl) ?_
    simp only [List.take_succ_cons, List.take_zero, List.drop_succ_cons, List.drop_zero]
    repeat (go_big_quiet_step (fail))
    refine wpQuiet_nil ?_
    rintro _ ⟨m8, rfl⟩
    go_wp2_with fail
    refine (PU.out m8).mono ?_
    rintro e w8 ⟨rfl, q3, f3, res⟩
    have RES := Hid.mk res
    clear res PU z2 k3
    go_wp2
    go_end0
    exact ⟨rfl, by rw [HRES.out]; exact RES.out⟩
  | cons y A =>
    obtain ⟨g, cap, hv, hcn, hc, hgl, hx⟩ := hl.tail.at
    rw [Nat.zero_add] at hv hcn
    have hxl : (y :: A).length = A.length + 1 := rfl
    have VAL : Hid (∀ W, Only [] w W → Calls Yba.prog 79 #[.pointer (some ⟨T, 1, none⟩)] W fun e w' => e = .returned (.slice (some ⟨g, 0, none⟩) (A.length + 1) cap) ∧ ∃ k, w' = W.drewN k) := by
      intro W hW
      have r' := r0.only hW (by simp)
      have := valuesA_any T 1 (y :: A).length cap 0 g W hcn hc (by simp) (by rw [hv] at r'; simpa using r'.cell 1) (by simpa using r'.cell 2)
      simpa using this
    obtain ⟨rk, hrk⟩ : ∃ rk, rk = rankI y.r.pr y.r.dl y.r.hd r.pr r.dl r.hd := ⟨_, rfl⟩
    have RK : Hid (∀ W, Only [] w W → Row W w.heap.size 83 r.vs → Calls Yba.prog 44 #[.pointer (some ⟨g, 0, none⟩), .pointer (some ⟨w.heap.size, 0, none⟩)] W fun e w' => e = .returned (.int .i64 rk) ∧ ∃ k, w' = W.drewN k) := by
      intro W hW hr
      have d : ∀ c, c < 7 → W.cell? ⟨g, 0 + c, none⟩ = y.vs[c]? := fun c hc => by
        have h := hx c hc
        rw [Nat.zero_mul] at h
        rw [← h]
        exact World.cell?_of_block (hW.block g hgl (by simp))
      have q1 := hr.cell 3
      have q2 := hr.cell 4
      have q3 := hr.cell 5
      simp at q1 q2 q3
      rw [hrk]
      exact rank_any g 0 w.heap.size 0 y.r.pr y.r.dl y.r.hd r.pr r.dl r.hd W (by simpa using d 3 (by decide)) (by simpa using d 4 (by decide)) (by simpa using d 5 (by decide)) (by simpa using q1) (by simpa using q2) (by simpa using q3)
    have hgt : ((0 : Int) < (A.length : Int) + 1) := by omega
    have hcap2 : A.length + 1 ≤ cap := by simpa using hcn
    have HRK := Hid.mk hrk
    have hAl : A.length ≤ 9999 := by simp at hA; omega
    clear hv hcn hc hgl hx hrk
    by_cases h0 : rk = 0
    · have HRES : Hid (oPush H (y :: A) r n = (H, (y :: A) ++ [⟨r, n⟩])) := by
        refine Hid.mk ?_
        simp only [oPush]
        rw [if_pos (by rw [← HRK.out]; exact h0)]
      have h0' : (rk != 0) = false := by simp [h0]
      rw [h0] at RK h0'
      clear h0 h0'
      go_enter Yba.func52, Yba.ntmps52
      go_wp2_with fail
      refine (LEN.out _ _ _ _ _ _ (P0.out _ ((Only.refl _ _).alloc _) (row_new _ _ _ _ rfl))).mono ?_
      rintro e w1 ⟨rfl, m1, rfl⟩
      rw [hxl]
      go_wp2_with fail
      refine (VAL.out _ (((Only.refl _ _).alloc _).drewN _)).mono ?_
      rintro e w1 ⟨rfl, m2, rfl⟩
      go_wp2_with fail
      refine (RK.out _ (((Only.refl _ _).alloc _).drewN _) ((row_new _ _ _ _ rfl).drewN _)).mono ?_
      rintro e w1 ⟨rfl, m3, rfl⟩
      go_wp2_with fail
      refine wp_world (fun W => PuSt w W T w.heap.size n c4 c5 c6 r ev iv ev iv 0 H (y :: A)) (P0.out _ (((Only.refl _ _).alloc _).drewN _) ((row_new _ _ _ _ rfl).drewN _)) ?_
      rintro W hP
      have HP := Hid.mk hP
      clear hP P0 LEN r0 hl VAL RK
      generalize hB : w.heap.size = B at HP ⊢
      have HB := Hid.mk hB
      clear hB
      have k3 := HP.out.rT.cell 3
      have z2 := fun i => HP.out.rB.cell i
      simp at k3
      have hBW : B < W.heap.size := HP.out.rB.lt
      have hTW : T < W.heap.size := HP.out.rT.lt
      have PU : Hid (∀ m, Calls Yba.prog 81 #[.pointer (some ⟨T, 1, none⟩), .agg (Arr.vs ⟨r, n⟩)] (W.drewN m) fun e w' => e = .returned (.tuple #[]) ∧ w'.cell? ⟨T, 3, none⟩ = some (.int .u64 n) ∧ w'.frozen? ⟨T, 3, none⟩ = false ∧
          Only (T :: (ev.ownBlock.toList ++ iv.ownBlock.toList)) w (w'.setCell ⟨T, 3, none⟩ (.int .u64 ((n : Int) + 1))) ∧
          ∃ ev' iv', Row (w'.setCell ⟨T, 3, none⟩ (.int .u64 ((n : Int) + 1))) T 140 #[ev', iv', .int .i64 0, .int .u64 ((n : Int) + 1), c4, c5, c6] ∧ OrdL (w'.setCell ⟨T, 3, none⟩ (.int .u64 ((n : Int) + 1))) ev' H iv' 0 ((y :: A) ++ [⟨r, n⟩]) ∧
            (∀ k, ev'.ownBlock = some k → ev.ownBlock = some k ∨ w.heap.size ≤ k) ∧ (∀ k, iv'.ownBlock = some k → iv.ownBlock = some k ∨ w.heap.size ≤ k)) := by
        intro m
        have hP := HP.out.same ((Only.refl [] W).drewN m)
        refine (pushA_line T iv ⟨r, n⟩ (y :: A) _ _ c4 c5 c6 _ hP.rT hP.ol.tail (by rw [hP.ivo]; exact HNE.out) (by simp; omega)).mono ?_
        rintro e w' ⟨rfl, ho, iv', hr, hl, hn⟩
        exact ⟨rfl, by simpa using hr.cell 3, hr.frozen 3, hP.done HNE.out ho hr hl hn⟩
      refine wp_region_drawn_tail 9 (by kernel_rfl) (by kernel_rfl) ?_
      simp only [List.take_succ_cons, List.take_zero, List.drop_succ_cons, List.drop_zero]
      repeat (go_big_quiet_step (fail))
      refine wpQuiet_nil ?_
      rintro _ ⟨m8, rfl⟩
      go_wp2_with fail
      refine (PU.out m8).mono ?_
      rintro e w8 ⟨rfl, q3, f3, res⟩
      have RES := Hid.mk res
      clear res PU z2 k3
      go_wp2
      go_end0
      exact ⟨rfl, by rw [HRES.out]; exact RES.out⟩
    · have h0' : (rk == 0) = false := by simpa using h0
      have HR0 : Hid (oPush H (y :: A) r n = ((y :: A).foldl pushH H, [] ++ [⟨r, n⟩])) := by
        refine Hid.mk ?_
        simp only [oPush]
        rw [if_neg (by rw [← HRK.out]; exact h0)]
        rfl
      go_enter Yba.func52, Yba.ntmps52
      go_wp2_with fail
      refine (LEN.out _ _ _ _ _ _ (P0.out _ ((Only.refl _ _).alloc _) (row_new _ _ _ _ rfl))).mono ?_
      rintro e w1 ⟨rfl, m1, rfl⟩
      rw [hxl]
      go_wp2_with fail
      refine (VAL.out _ (((Only.refl _ _).alloc _).drewN _)).mono ?_
      rintro e w1 ⟨rfl, m2, rfl⟩
      go_wp2_with fail
      refine (RK.out _ (((Only.refl _ _).alloc _).drewN _) ((row_new _ _ _ _ rfl).drewN _)).mono ?_
      rintro e w1 ⟨rfl, m3, rfl⟩
      go_wp2_with fail
      refine wp_world (fun W => PuSt w W T w.heap.size n c4 c5 c6 r ev iv ev iv 0 H (y :: A)) (P0.out _ (((Only.refl _ _).alloc _).drewN _) ((row_new _ _ _ _ rfl).drewN _)) ?_
      rintro W0 hP
      have HP0 := Hid.mk hP
      have h0n : (rk != 0) = true := by simpa using h0
      rw [h0n]
      clear hP P0 r0 hl VAL RK h0 h0' h0n
      generalize hB : w.heap.size = B at HP0 LEN ⊢
      have HB := Hid.mk hB
      clear hB
      go_loopg [21] (A.length + 1) (fun k p W => ∃ (ev1 iv1 : Value) (hd1 : Nat) (H1 A1 : List Arr), A1.length = k ∧ H1.length + k = H.length + (A.length + 1) ∧ A1.foldl pushH H1 = (y :: A).foldl pushH H ∧ PuSt w W T B n c4 c5 c6 r ev iv ev1 iv1 hd1 H1 A1)
      case atStart => exact ⟨ev, iv, 0, H, y :: A, rfl, rfl, rfl, HP0.out⟩
      case round =>
        obtain ⟨ev1, iv1, hd1, H1, A1, hk1, hk2, hfold, hP⟩ := hrel
        have L1 := Hid.mk (LEN.out _ _ _ _ _ _ hP)
        have hTr := hP.rT.lt
        cases A1 with
        | nil =>
          have hd0 : hd1 = 0 := by
            obtain ⟨dead, _, _, h3, _⟩ := hP.ol.tail
            exact h3 rfl
          subst hd0
          subst hk1
          simp only [List.length_nil] at L1
          have HRES : Hid (oPush H (y :: A) r n = (H1, [] ++ [⟨r, n⟩])) := by
            refine Hid.mk ?_
            rw [HR0.out, ← hfold]
            rfl
          have HPr := Hid.mk hP
          clear hP hfold
          go_wp2_with fail
          refine L1.out.mono ?_
          rintro e w1 ⟨rfl, m4, rfl⟩
          go_wp2_with fail
          refine wp_world (fun W => PuSt w W T B n c4 c5 c6 r ev iv ev1 iv1 0 H1 []) (HPr.out.same ((Only.refl _ _).drewN m4)) ?_
          rintro W hP
          have HP := Hid.mk hP
          clear hP LEN HPr L1
          have k3 := HP.out.rT.cell 3
          have z2 := fun i => HP.out.rB.cell i
          simp at k3
          have hBW : B < W.heap.size := HP.out.rB.lt
          have hTW : T < W.heap.size := HP.out.rT.lt
          have PU : Hid (∀ m, Calls Yba.prog 81 #[.pointer (some ⟨T, 1, none⟩), .agg (Arr.vs ⟨r, n⟩)] (W.drewN m) fun e w' => e = .returned (.tuple #[]) ∧ w'.cell? ⟨T, 3, none⟩ = some (.int .u64 n) ∧ w'.frozen? ⟨T, 3, none⟩ = false ∧
              Only (T :: (ev.ownBlock.toList ++ iv.ownBlock.toList)) w (w'.setCell ⟨T, 3, none⟩ (.int .u64 ((n : Int) + 1))) ∧
              ∃ ev' iv', Row (w'.setCell ⟨T, 3, none⟩ (.int .u64 ((n : Int) + 1))) T 140 #[ev', iv', .int .i64 0, .int .u64 ((n : Int) + 1), c4, c5, c6] ∧ OrdL (w'.setCell ⟨T, 3, none⟩ (.int .u64 ((n : Int) + 1))) ev' H1 iv' 0 ([] ++ [⟨r, n⟩]) ∧
                (∀ k, ev'.ownBlock = some k → ev.ownBlock = some k ∨ w.heap.size ≤ k) ∧ (∀ k, iv'.ownBlock = some k → iv.ownBlock = some k ∨ w.heap.size ≤ k)) := by
            intro m
            have hP := HP.out.same ((Only.refl [] W).drewN m)
            refine (pushA_line T iv1 ⟨r, n⟩ [] _ _ c4 c5 c6 _ hP.rT hP.ol.tail (by rw [hP.ivo]; exact HNE.out) (by simp)).mono ?_
            rintro e w' ⟨rfl, ho, iv', hr, hl, hn⟩
            exact ⟨rfl, by simpa using hr.cell 3, hr.frozen 3, hP.done HNE.out ho hr hl hn⟩
          refine wp_region_drawn_tail 9 (by kernel_rfl) (by kernel_rfl) ?_
          simp only [List.take_succ_cons, List.take_zero, List.drop_succ_cons, List.drop_zero]
          repeat (go_big_quiet_step (fail))
          refine wpQuiet_nil ?_
          rintro _ ⟨m8, rfl⟩
          go_wp2_with fail
          refine (PU.out m8).mono ?_
          rintro e w8 ⟨rfl, q3, f3, res⟩
          have RES := Hid.mk res
          clear res PU z2 k3
          go_wp2
          go_end0
          exact ⟨rfl, by rw [HRES.out]; exact RES.out⟩
        | cons x A2 =>
          have hlx : (x :: A2).length = A2.length + 1 := rfl
          have hgt2 : ((0 : Int) < (A2.length : Int) + 1) := by omega
          have HF : Hid (A2.foldl pushH (pushH H1 x) = (y :: A).foldl pushH H) := hfold
          have HPr := Hid.mk hP
          have hB1 : B < wr.heap.size := hP.rB.lt
          rw [hlx] at L1 hk1
          clear hP hfold
          go_wp2_with fail
          refine L1.out.mono ?_
          rintro e w1 ⟨rfl, m4, rfl⟩
          go_wp2_with fail
          have hP1 := HPr.out.same ((Only.refl [] wr).drewN m4)
          refine (popA_line T hd1 iv1 x A2 _ _ c4 c5 c6 _ hP1.rT hP1.ol.tail (by rw [hP1.ivo]; exact HNE.out)).mono ?_
          rintro e w2 ⟨rfl, ho2, iv2, hd2, hr2, hl2, hob2⟩
          have HP2 := Hid.mk (hP1.popped ho2 hr2 hl2 hob2)
          clear hP1 ho2 hr2 hl2 hob2 HPr L1
          go_wp2_with fail
          have hP3 := HP2.out.same ((Only.refl [] w2).alloc (.cells x.vs 117))
          refine (pushEarlier_any T ev1 H1 x _ _ _ c4 c5 c6 _ hP3.rT hP3.ol.heap (by omega)).mono ?_
          rintro e w3 ⟨rfl, ho3, ev3, hr3, hl3, hn3⟩
          have HP4 := Hid.mk (hP3.pushed HNE.out ho3 hr3 hl3 hn3)
          clear hP3 ho3 hr3 hl3 hn3 HP2
          go_wp2
          go_roundg A2.length
          case measure => omega
          case rel => exact ⟨ev3, iv2, hd2, pushH H1 x, A2, rfl, by rw [pushH_length]; omega, HF.out, HP4.out⟩
end Go.Proofs.Ybulkhba
