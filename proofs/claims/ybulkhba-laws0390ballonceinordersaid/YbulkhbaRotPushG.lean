import Derived.Test.YbulkhbaTG
import Derived.Test.YbulkhbaRotPush
namespace Go.Proofs.Ybulkhba
open Go.RowKit
set_option linter.unusedVariables false
set_option linter.unusedSimpArgs false

/-- The tenant behind a push. -/
def TG.push (t : TG) (r : Req) (ev iv : Value) : TG := { t with ev := ev, H := (oPush t.H t.A r t.n).1, iv := iv, A := (oPush t.H t.A r t.n).2, n := t.n + 1 }

set_option maxRecDepth 100000 in
set_option maxHeartbeats 3200000 in
/-- (*rotation).push -/
theorem rotPush_g (R rh : Nat) (rv : Value) (it : Bool) (nr : Nat) (ps : List Value) (t : TG) (r : Req) (w : World)
    (rR : Row w R 131 (rotRow rv rh it nr)) (hL : LineP w rv rh ps) (hT : TLineG w R t) (hh : t.hd = 0) (hps : ps.length ≤ 1000) (h1c : ∀ u ∈ ps, u.oneCell' = true) (hA : t.A.length ≤ 10000) (hH : t.H.length ≤ 10000) (hn : t.n ≤ 10000) (hnr : nr ≤ 10000) :
    Calls Yba.prog 35 #[.pointer (some ⟨R, 0, none⟩), .pointer (some ⟨t.b, 0, none⟩), .agg r.vs] w fun e w' => e = .returned (.tuple #[]) ∧ Only (R :: (rv.ownBlock.toList ++ t.fp)) w w' ∧
      ∃ rv' rh' ev' iv', Row w' R 131 (rotRow rv' rh' it ((nr : Int) + 1)) ∧ LineP w' rv' rh' (if t.H ++ t.A = [] then ps ++ [t.ptr] else ps) ∧ TLineG w' R (t.push r ev' iv') ∧
        (∀ k, rv'.ownBlock = some k → rv.ownBlock = some k ∨ w.heap.size ≤ k) ∧ (∀ k ∈ (t.push r ev' iv').fp, k ∈ t.fp ∨ w.heap.size ≤ k) := by
  have hne := hL.ne rR (by decide)
  have hRl := rR.lt
  have hbl := hT.row.lt
  have hbR : t.b ≠ R := hT.row.ne rR (by decide)
  have LN41 : Hid (∀ W, Only [] w W → Calls Yba.prog 41 #[.pointer (some ⟨t.b, 0, none⟩)] W fun e w' => e = .returned (.int .i64 ((t.H.length + t.A.length : Nat) : Int)) ∧ ∃ k, w' = W.drewN k) := by
    intro W hW
    have hT' := hT.only hW (by simp)
    exact ordLen_g t.b t.hd t.ev t.iv t.H t.A _ _ _ _ W hT'.row hT'.ord (by omega) (by omega)
  -- what is left once the pointer has joined
  have PUSH : Hid (∀ (W : World) (rv' : Value) (rh' : Nat) (ps' : List Value), Only (R :: rv.ownBlock.toList) w W → Row W R 131 (rotRow rv' rh' it nr) → LineP W rv' rh' ps' → (∀ k, rv'.ownBlock = some k → rv.ownBlock = some k ∨ w.heap.size ≤ k) →
      Calls Yba.prog 52 #[.pointer (some ⟨t.b, 0, none⟩), .agg r.vs] W fun e w' => e = .returned (.tuple #[]) ∧ (w'.cell? ⟨R, 4, none⟩ = some (.int .i64 nr) ∧ w'.frozen? ⟨R, 4, none⟩ = false) ∧ (Only (R :: (rv.ownBlock.toList ++ t.fp)) w (w'.setCell ⟨R, 4, none⟩ (.int .i64 ((nr : Int) + 1))) ∧
      ∃ rv' rh' ev' iv', Row (w'.setCell ⟨R, 4, none⟩ (.int .i64 ((nr : Int) + 1))) R 131 (rotRow rv' rh' it ((nr : Int) + 1)) ∧ LineP (w'.setCell ⟨R, 4, none⟩ (.int .i64 ((nr : Int) + 1))) rv' rh' ps' ∧ TLineG (w'.setCell ⟨R, 4, none⟩ (.int .i64 ((nr : Int) + 1))) R (t.push r ev' iv') ∧
        (∀ k, rv'.ownBlock = some k → rv.ownBlock = some k ∨ w.heap.size ≤ k) ∧ (∀ k ∈ (t.push r ev' iv').fp, k ∈ t.fp ∨ w.heap.size ≤ k))) := by
    intro W rv' rh' ps' ho rR' hL' hnew
    have hbS : ∀ k ∈ t.fp, k ∉ R :: rv.ownBlock.toList := by
      intro k hk hm
      simp only [List.mem_cons, Option.mem_toList] at hm
      rcases hm with rfl | hm
      · exact hT.not_mine rR (by decide) (by decide) hk
      · obtain ⟨cs, r'⟩ := hL.rowOf k hm
        exact hT.not_mine r' (by decide) (by decide) hk
    have hT' := hT.only ho hbS
    have r1 : Row W t.b 140 #[t.ev, t.iv, .int .i64 0, .int .u64 t.n, .pointer (some ⟨R, 0, none⟩), .int .i64 t.q, .int .i64 t.d] := by
      have := hT'.row
      simp only [TG.cells, hh] at this
      simpa using this
    have l1 : OrdL W t.ev t.H t.iv 0 t.A := hh ▸ hT'.ord
    refine (ordPush_g t.b t.ev t.iv r t.n t.H t.A _ _ _ W r1 l1 hT'.ivb (by omega) (by omega) (by omega)).mono ?_
    rintro e w' ⟨rfl, ho2, ev', iv', hr2, hl2, hnew1, hnew2⟩
    have ho2' : Only t.fp W w' := ho2
    have hRS : R ∉ t.fp := fun hk => hT.not_mine rR (by decide) (by decide) hk
    have rR2 := rR'.only ho2' hRS
    have hL2 : LineP w' rv' rh' ps' := hL'.only ho2' (by
      intro k hk hm
      obtain ⟨cs, r'⟩ := hL'.rowOf k hk
      exact hT'.not_mine r' (by decide) (by decide) hm)
    have hno : Only [R] w' (w'.setCell ⟨R, 4, none⟩ (.int .i64 ((nr : Int) + 1))) := (Only.refl _ _).setCell (by simp) _
    have hTn : TLineG w' R (t.push r ev' iv') := by
      refine ⟨?_, ?_⟩
      · have : Row w' t.b 140 #[ev', iv', .int .i64 (t.hd : Nat), .int .u64 ((t.n + 1 : Nat) : Int), .pointer (some ⟨R, 0, none⟩), .int .i64 t.q, .int .i64 t.d] := by
          rw [hh]; simpa using hr2
        exact this
      · show OrdL w' ev' _ iv' t.hd _
        rw [hh]; exact hl2
    refine ⟨rfl, ⟨by simpa using rR2.cell 4, rR2.frozen 4⟩, ?_, rv', rh', ev', iv', by simpa using rR2.set 4 (.int .i64 ((nr : Int) + 1)), hL2.only hno ?_, hTn.only hno ?_, hnew, ?_⟩
    · refine ((ho.mono ?_).trans (ho2'.mono ?_)).setCell (by simp) _
      · intro j hj; simp only [List.mem_cons, List.mem_append, Option.mem_toList] at hj ⊢; rcases hj with h | h <;> simp [h]
      · intro j hj; simp only [List.mem_cons, List.mem_append]; exact .inr (.inr hj)
    · intro k hk; simp; rintro rfl; exact hL2.ne rR2 (by decide) hk
    · intro k hk; simp; rintro rfl; exact hTn.not_mine rR2 (by decide) (by decide) hk
    · intro k hk
      have hsz := ho.size
      simp only [TG.fp, TG.push, List.mem_cons, List.mem_append, Option.mem_toList] at hk ⊢
      rcases hk with h | h | h
      · exact .inl (.inl h)
      · rcases hnew1 k h with h' | h'
        · exact .inl (.inr (.inl h'))
        · exact .inr (by omega)
      · rcases hnew2 k h with h' | h'
        · exact .inl (.inr (.inr h'))
        · exact .inr (by omega)
  have hnr1 : (nr : Int) ≤ 10000 := by omega
  have hnr0 : (0 : Int) ≤ nr := by omega
  have PJ : Hid (∀ W, Only [] w W → Calls Yba.prog 51 #[.pointer (some ⟨R, 1, none⟩), .pointer (some ⟨t.b, 0, none⟩)] W fun e w' => e = .returned (.tuple #[]) ∧ Only (R :: rv.ownBlock.toList) W w' ∧
      ∃ iv' hd', Row w' R 131 (rotRow iv' hd' it nr) ∧ LineP w' iv' hd' (ps ++ [t.ptr]) ∧ (∀ k, iv'.ownBlock = some k → rv.ownBlock = some k ∨ W.heap.size ≤ k)) :=
    fun W hW => pushP_line R rh rv (some ⟨t.b, 0, none⟩) ps _ _ _ W (rR.only hW (by simp)) (hL.only hW (by simp)) hne (by omega) h1c
  have LL : Hid (LineP w rv rh ps ∧ Row w R 131 (rotRow rv rh it nr)) := ⟨hL, rR⟩
  clear hh
  obtain ⟨LE, hLE⟩ : ∃ LE : Int, LE = ((t.H.length + t.A.length : Nat) : Int) := ⟨_, rfl⟩
  rw [← hLE] at LN41
  by_cases hA0 : t.H ++ t.A = []
  · have h0 : LE = 0 := by
      have := congrArg List.length hA0
      simp only [List.length_append, List.length_nil] at this
      omega
    have HA := Hid.mk hA0
    subst h0
    clear hA0 hLE hA hH hT rR hL
    go_enter Yba.func35, Yba.ntmps35
    go_wp2_with fail
    refine (LN41.out _ ((Only.refl _ _).alloc _)).mono ?_
    rintro e w1 ⟨rfl, m1, rfl⟩
    go_wp2_with fail
    refine (PJ.out _ (((Only.refl _ _).alloc _).drewN m1)).mono ?_
    rintro e w2 ⟨rfl, ho2, rv2, rh2, rR2, hL2, hnew2⟩
    have hB : w.heap.size ∉ R :: rv.ownBlock.toList := by
      simp only [List.mem_cons, Option.mem_toList, not_or]
      exact ⟨by omega, fun h => by have := LL.out.1.lt _ h; omega⟩
    have rB : Row w2 w.heap.size 83 r.vs := ((row_new w 83 r.vs _ rfl).drewN m1).only ho2 hB
    have HO2 := Hid.mk (show Only (R :: rv.ownBlock.toList) w w2 from (((Only.refl _ _).alloc _).drewN m1).trans ho2)
    have NEW2 : Hid (∀ k, rv2.ownBlock = some k → rv.ownBlock = some k ∨ w.heap.size ≤ k) := fun k hk => by
      rcases hnew2 k hk with h | h
      · exact .inl h
      · exact .inr (by simp at h; omega)
    have R2 := Hid.mk (And.intro rR2 hL2)
    have zB := fun i => rB.cell i
    clear ho2 rR2 hL2 hnew2 rB PJ LN41
    go_wp2_with fail
    refine wp_region_drawn_tail 4 (by kernel_rfl) (by kernel_rfl) ?_
    simp only [List.take_succ_cons, List.take_zero, List.drop_succ_cons, List.drop_zero]
    repeat (go_big_quiet_step (fail))
    refine wpQuiet_nil ?_
    rintro _ ⟨m3, rfl⟩
    go_wp2_with fail
    refine (PUSH.out _ rv2 rh2 (ps ++ [t.ptr]) (HO2.out.drewN m3) (R2.out.1.drewN m3) (R2.out.2.only (S := []) ((Only.refl _ _).drewN m3) (by simp)) NEW2.out).mono ?_
    rintro e w3 ⟨rfl, ⟨q4, f4⟩, res⟩
    have RES := Hid.mk res
    clear res PUSH R2
    go_wp2
    go_end0
    obtain ⟨z1, z2, z3, z4, z5, z6, z7, z8, z9⟩ := RES.out
    refine ⟨rfl, ?_⟩
    exact ⟨z1, z2, z3, z6, z7, z4, z5, z8, z9⟩
  · have h0 : (LE == 0) = false := by
      rw [beq_eq_false_iff_ne]
      intro h
      exact hA0 (List.eq_nil_of_length_eq_zero (by rw [List.length_append]; omega))
    have HA := Hid.mk hA0
    clear hA0 hLE hA hH hT rR hL
    go_enter Yba.func35, Yba.ntmps35
    go_wp2_with fail
    refine (LN41.out _ ((Only.refl _ _).alloc _)).mono ?_
    rintro e w1 ⟨rfl, m1, rfl⟩
    go_wp2_with fail
    refine wp_region_drawn_tail 4 (by kernel_rfl) (by kernel_rfl) ?_
    simp only [List.take_succ_cons, List.take_zero, List.drop_succ_cons, List.drop_zero]
    repeat (go_big_quiet_step (fail))
    refine wpQuiet_nil ?_
    rintro _ ⟨m3, rfl⟩
    go_wp2_with fail
    have ho := ((Only.refl (R :: rv.ownBlock.toList) w).alloc (.cells r.vs 83)).drewN (m1 + m3)
    have ho' := ((Only.refl [] w).alloc (.cells r.vs 83)).drewN (m1 + m3)
    refine (PUSH.out _ rv rh ps ho (LL.out.2.only ho' (by simp)) (LL.out.1.only ho' (by simp)) (fun k hk => .inl hk)).mono ?_
    rintro e w3 ⟨rfl, ⟨q4, f4⟩, res⟩
    have RES := Hid.mk res
    clear res PUSH
    go_wp2
    go_end0
    obtain ⟨z1, z2, z3, z4, z5, z6, z7, z8, z9⟩ := RES.out
    refine ⟨rfl, ?_⟩
    exact ⟨z1, z2, z3, z6, z7, z4, z5, z8, z9⟩

theorem QG.pushOff {W W' : World} {Q M R : Nat} {n m : Int} {rv : Value} {rh : Nat} {it : Bool} {rot : List TG} {ents : List (ByteArray × Nat)} {t : TG} (h : QG W Q M R n m rv rh it rot ents) (hT : TLineG W R t) (ho : Only (R :: (rv.ownBlock.toList ++ t.fp)) W W') :
    Row W' Q 107 (fairRow M R n) ∧ MapIs W' M ents ∧ ∀ s ∈ rot, ApartG s t → TLineG W' R s := by
  have key : ∀ k, k ≠ R → rv.ownBlock ≠ some k → k ∉ t.fp → k ∉ R :: (rv.ownBlock.toList ++ t.fp) := by
    intro k h1 h2 h3 hk
    simp only [List.mem_cons, List.mem_append, Option.mem_toList] at hk
    rcases hk with g | g | g
    · exact h1 g
    · exact h2 g
    · exact h3 g
  refine ⟨h.rQ.only ho (key _ (h.rQ.ne h.rR (by decide)) (h.line.ne h.rQ (by decide)) (hT.not_mine h.rQ (by decide) (by decide))), h.mp.only ho (key _ (h.mp.ne h.rR) (h.mp.neP h.line) (hT.not_map h.mp)), fun s hs ha => (h.tls s hs).only ho (fun k hk => ?_)⟩
  have := h.tenant (h.tls s hs) k hk
  exact key k this.2.2.1 this.2.2.2 (ha k hk)

/-- rotation.push ONTO A LINE THAT STANDS. -/
theorem pushOldG (Q M R rh nr : Nat) (n : Int) (rv : Value) (it : Bool) (pre post : List TG) (t : TG) (r : Req) (ents : List (ByteArray × Nat)) (w : World)
    (hq : QG w Q M R n nr rv rh it (pre ++ t :: post) ents) (hA0 : t.H ++ t.A ≠ []) (hh : t.hd = 0) (hps : (pre ++ t :: post).length ≤ 1000) (hA : t.A.length ≤ 10000) (hH : t.H.length ≤ 10000) (hn : t.n ≤ 10000) (hnr : nr ≤ 10000) :
    Calls Yba.prog 35 #[.pointer (some ⟨R, 0, none⟩), .pointer (some ⟨t.b, 0, none⟩), .agg r.vs] w fun e w' => e = .returned (.tuple #[]) ∧ Only (qBlocksG Q M R rv (pre ++ t :: post)) w w' ∧
      ∃ rv' rh' ev' iv', QG w' Q M R n ((nr : Int) + 1) rv' rh' it (pre ++ t.push r ev' iv' :: post) ents ∧
        ∀ k ∈ qBlocksG Q M R rv' (pre ++ t.push r ev' iv' :: post), k ∈ qBlocksG Q M R rv (pre ++ t :: post) ∨ w.heap.size ≤ k := by
  have hT := hq.tls t (by simp)
  refine (rotPush_g R rh rv it nr _ t r w hq.rR hq.line hT hh (by simpa using hps) (ptrs_oneG _) hA hH hn hnr).mono ?_
  rintro e w' ⟨rfl, ho, rv', rh', ev', iv', g1, g2, g3, n1, n2⟩
  rw [if_neg hA0] at g2
  have hpw := List.pairwise_append.1 hq.pw
  have hpc := List.pairwise_cons.1 hpw.2.1
  have a1 : ∀ s ∈ pre, ApartG s t := fun s hs => hpw.2.2 s hs t (by simp)
  have a2 : ∀ s ∈ post, ApartG s t := fun s hs => (hpc.1 s hs).symm
  have mv : ∀ s, TLineG w R s → ApartG s t → ApartG s (t.push r ev' iv') := by
    intro s hs ha k hk hk'
    rcases n2 k hk' with g | g
    · exact ha k hk g
    · have := hs.lt k hk; omega
  obtain ⟨gq, gm, gt⟩ := hq.pushOff hT ho
  refine ⟨rfl, ho.mono ?_, rv', rh', ev', iv', ⟨gq, g1, by simpa [TG.ptr, TG.push] using g2, ?_, gm, ?_⟩, ?_⟩
  · intro j hj
    simp only [qBlocksG, List.mem_cons, List.mem_append, List.flatMap_append, List.flatMap_cons] at hj ⊢
    rcases hj with h | h | h <;> simp [h]
  · intro s hs
    rcases List.mem_append.1 hs with hs | hs
    · exact gt s (by simp [hs]) (a1 s hs)
    · rcases List.mem_cons.1 hs with rfl | hs
      · exact g3
      · exact gt s (by simp [hs]) (a2 s hs)
  · refine List.pairwise_append.2 ⟨hpw.1, List.pairwise_cons.2 ⟨fun s hs => (mv s (hq.tls s (by simp [hs])) (a2 s hs)).symm, hpc.2⟩, fun s hs s' hs' => ?_⟩
    rcases List.mem_cons.1 hs' with rfl | hs'
    · exact mv s (hq.tls s (by simp [hs])) (a1 s hs)
    · exact hpw.2.2 s hs s' (by simp [hs'])
  · intro k hk
    simp only [qBlocksG, List.mem_cons, List.mem_append, List.flatMap_append, List.flatMap_cons, Option.mem_toList] at hk ⊢
    rcases hk with h | h | h | h | h | h | h
    · simp [h]
    · simp [h]
    · simp [h]
    · rcases n1 k h with h' | h'
      · simp [h']
      · exact .inr h'
    · simp only [h, true_or, or_true]
    · rcases n2 k h with h' | h'
      · simp [h']
      · exact .inr h'
    · simp only [h, true_or, or_true]

/-- rotation.push ONTO A NEW LINE. -/
theorem pushNewG (Q M R rh nr : Nat) (n : Int) (rv : Value) (it : Bool) (rot : List TG) (t : TG) (r : Req) (ents : List (ByteArray × Nat)) (w : World)
    (hq : QG w Q M R n nr rv rh it rot ents) (hT : TLineG w R t) (hap : ∀ s ∈ rot, ApartG s t) (hA0 : t.A = []) (hH0 : t.H = []) (hh : t.hd = 0) (hps : rot.length ≤ 999) (hn : t.n ≤ 10000) (hnr : nr ≤ 10000) :
    Calls Yba.prog 35 #[.pointer (some ⟨R, 0, none⟩), .pointer (some ⟨t.b, 0, none⟩), .agg r.vs] w fun e w' => e = .returned (.tuple #[]) ∧ Only (qBlocksG Q M R rv (rot ++ [t])) w w' ∧
      ∃ rv' rh' ev' iv', QG w' Q M R n ((nr : Int) + 1) rv' rh' it (rot ++ [t.push r ev' iv']) ents ∧
        ∀ k ∈ qBlocksG Q M R rv' (rot ++ [t.push r ev' iv']), k ∈ qBlocksG Q M R rv (rot ++ [t]) ∨ w.heap.size ≤ k := by
  refine (rotPush_g R rh rv it nr _ t r w hq.rR hq.line hT hh (by simp; omega) (ptrs_oneG _) (by rw [hA0]; simp) (by rw [hH0]; simp) hn hnr).mono ?_
  rintro e w' ⟨rfl, ho, rv', rh', ev', iv', g1, g2, g3, n1, n2⟩
  rw [if_pos (by rw [hA0, hH0]; rfl)] at g2
  have mv : ∀ s ∈ rot, ApartG s (t.push r ev' iv') := by
    intro s hs k hk hk'
    rcases n2 k hk' with g | g
    · exact hap s hs k hk g
    · have := (hq.tls s hs).lt k hk; omega
  obtain ⟨gq, gm, gt⟩ := hq.pushOff hT ho
  refine ⟨rfl, ho.mono ?_, rv', rh', ev', iv', ⟨gq, g1, by simpa [TG.ptr, TG.push] using g2, ?_, gm, ?_⟩, ?_⟩
  · intro j hj
    simp only [qBlocksG, List.mem_cons, List.mem_append, List.flatMap_append, List.flatMap_cons, List.flatMap_nil, List.append_nil] at hj ⊢
    rcases hj with h | h | h <;> simp [h]
  · intro s hs
    rcases List.mem_append.1 hs with hs | hs
    · exact gt s hs (hap s hs)
    · rw [List.mem_singleton.1 hs]; exact g3
  · exact List.pairwise_append.2 ⟨hq.pw, List.pairwise_singleton _ _, fun s hs s' hs' => by rw [List.mem_singleton.1 hs']; exact mv s hs⟩
  · intro k hk
    simp only [qBlocksG, List.mem_cons, List.mem_append, List.flatMap_append, List.flatMap_cons, List.flatMap_nil, List.append_nil, Option.mem_toList] at hk ⊢
    rcases hk with h | h | h | h | h | h
    · simp [h]
    · simp [h]
    · simp [h]
    · rcases n1 k h with h' | h'
      · simp [h']
      · exact .inr h'
    · simp only [h, true_or, or_true]
    · rcases n2 k h with h' | h'
      · simp [h']
      · exact .inr h'
end Go.Proofs.Ybulkhba
