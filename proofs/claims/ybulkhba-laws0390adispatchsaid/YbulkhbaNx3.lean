import Derived.Test.YbulkhbaNx2
namespace Go.Proofs.Ybulkhba
open Go.RowKit
open Go.MuLone
set_option linter.unusedVariables false
set_option linter.unusedSimpArgs false

/-- What next reads. -/
structure NIn (w : World) (S C Qn Mw Mq Bb cap B : Nat) (mu : Int) (retr : Value) (wl ex2 : Int) (sl inf try_ : Int) (wk : Bool) : Prop where
  rS : Row w S 67 (srvRow mu C Qn Mw Mq retr (.slice (some ⟨Bb, 0, none⟩) 1 cap))
  cb : w.cell? ⟨Bb, 0, none⟩ = some (.pointer (some ⟨B, 0, none⟩))
  lb : Bb < w.heap.size
  rB : Row w B 39 (bkRow sl inf try_ wl ex2 wk 2)
theorem NIn.below {w w' : World} {S C Qn Mw Mq Bb cap B : Nat} {mu : Int} {retr : Value} {wl ex2 : Int} {sl inf try_ : Int} {wk : Bool} (h : NIn w S C Qn Mw Mq Bb cap B mu retr wl ex2 sl inf try_ wk) (hb : Below w.heap.size w w') : NIn w' S C Qn Mw Mq Bb cap B mu retr wl ex2 sl inf try_ wk :=
  ⟨h.rS.below hb h.rS.lt, (hb.cell h.lb).trans h.cb, Nat.lt_of_lt_of_le h.lb hb.size, h.rB.below hb h.rB.lt⟩
set_option maxRecDepth 100000 in
set_option maxHeartbeats 1600000 in
/-- (*Server).freest: the one backend, down: if it has a slot free. -/
theorem freest_down (S C Qn Mw Mq Bb cap B P : Nat) (mu : Int) (retr : Value) (wl ex ex2 : Int) (sl inf try_ : Int) (wk : Bool) (w : World) (hn : NIn w S C Qn Mw Mq Bb cap B mu retr wl ex2 sl inf try_ wk) (rP : Row w P 78 #[.map none]) (hc : 1 ≤ cap) (h0 : 0 ≤ wl) (h1 : wl < 1000000000) (hlt : ex < ex2)
    (s0 : 0 ≤ sl) (s1 : sl ≤ 100000) (i0 : 0 ≤ inf) (i1 : inf ≤ 100000) :
    Calls Yba.prog 72 #[.pointer (some ⟨S, 0, none⟩), .agg (tmV wl ex), mayV P] w fun e w' => e = .returned (.pointer (if inf < sl then some ⟨B, 0, none⟩ else none)) ∧ Below w.heap.size w w' := by
  obtain ⟨W0, hW0⟩ : ∃ W0, W0 = (w.alloc (.cells (tmV wl ex) 29)).alloc (.cells #[mayV P] 174) := ⟨_, rfl⟩
  have hb0 : Below w.heap.size w W0 := by rw [hW0]; exact ((Below.refl _ _).alloc (Nat.le_refl _) _).alloc (by simp) _
  have r4 : Row W0 w.heap.size 29 (tmV wl ex) := by rw [hW0]; exact (row_new w 29 _ _ rfl).alloc _
  have r5 : Row W0 (w.heap.size + 1) 174 #[mayV P] := by rw [hW0]; exact row_new _ 174 _ _ (by simp)
  have n0 := hn.below hb0
  have rP0 := rP.below hb0 rP.lt
  have HW := Hid.mk hW0
  have CT := Hid.mk (contains_down Bb cap B P w.heap.size (w.heap.size + 1) wl ex ex2 sl inf try_ wk W0 hc n0.cb rP0 r5 r4 n0.rB h0 h1 hlt)
  have s16 := n0.rS.cell 16
  simp at s16
  have HN := Hid.mk (And.intro n0 (And.intro rP0 (And.intro r4 (And.intro r5 hb0))))
  rw [hW0] at s16 CT
  have lS : S < w.heap.size := hn.rS.lt
  have lB : B < w.heap.size := hn.rB.lt
  clear hn rP hb0 r4 r5 n0 rP0 hW0
  go_enter Yba.func72, Yba.ntmps72
  go_wp2_with fail
  refine CT.out.mono ?_
  rintro e w1 ⟨rfl, hb⟩
  rw [← HW.out] at hb
  have n1 := HN.out.1.below hb
  have rP1 := HN.out.2.1.below hb HN.out.2.1.lt
  have r4 := HN.out.2.2.1.below hb HN.out.2.2.1.lt
  have r5 := HN.out.2.2.2.1.below hb HN.out.2.2.2.1.lt
  have HB1 : Hid (Below w.heap.size w w1) := HN.out.2.2.2.2.trans (hb.mono HN.out.2.2.2.2.size)
  have s16 := n1.rS.cell 16
  have c5 := r5.cell 0
  have z0 := r4.cell 0
  have z1 := r4.cell 1
  have z2 := r4.cell 2
  have cb := n1.cb
  simp at s16 c5 z0 z1 z2
  have N1 := Hid.mk (next1_nil B P w1 rP1)
  have TK := Hid.mk (takes_down B wl ex ex2 sl inf try_ wk w1 n1.rB h0 h1 hlt s0 s1 i0 i1)
  clear hb n1 rP1 r4 r5 CT HN HW
  go_wp2_with fail
  refine wp_loop_rounds 2 ?_
  rw [rounds_succ]
  go_wp2_with fail
  refine N1.out.mono ?_
  rintro e w2 ⟨rfl, rfl⟩
  go_wp2_with fail
  refine TK.out.mono ?_
  rintro e w3 ⟨rfl, hb3⟩
  have HB3 : Hid (Below w.heap.size w w3) := HB1.out.trans (hb3.mono HB1.out.size)
  clear hb3 N1 TK s16 c5 z0 z1 z2 cb
  by_cases hf : inf < sl
  · have hf2 : 0 < sl - inf := by omega
    go_wp2
    rw [rounds_succ]
    go_wp2
    go_ret
    exact ⟨by simp [hf], HB3.out⟩
  · have hf2 : ¬ 0 < sl - inf := by omega
    go_wp2
    rw [rounds_succ]
    go_wp2
    go_ret
    exact ⟨by simp [hf], HB3.out⟩
set_option maxRecDepth 100000 in
set_option maxHeartbeats 1600000 in
/-- (*Server).next, of a request that no one has refused. -/
theorem next_down (S C Qn Mw Mq Bb cap B : Nat) (mu : Int) (retr : Value) (wl ex ex2 : Int) (sl inf try_ : Int) (wk : Bool) (w : World) (hn : NIn w S C Qn Mw Mq Bb cap B mu retr wl ex2 sl inf try_ wk) (hc : 1 ≤ cap) (h0 : 0 ≤ wl) (h1 : wl < 1000000000) (hlt : ex < ex2)
    (s0 : 0 ≤ sl) (s1 : sl ≤ 100000) (i0 : 0 ≤ inf) (i1 : inf ≤ 100000) :
    Calls Yba.prog 49 #[.pointer (some ⟨S, 0, none⟩), .map none, .agg (tmV wl ex)] w fun e w' => e = .returned (.pointer (if inf < sl then some ⟨B, 0, none⟩ else none)) ∧ Below w.heap.size w w' := by
  obtain ⟨W0, hW0⟩ : ∃ W0, W0 = (w.alloc (.cells #[.map none] 78)).alloc (.cells (tmV wl ex) 29) := ⟨_, rfl⟩
  have hb0 : Below w.heap.size w W0 := by rw [hW0]; exact ((Below.refl _ _).alloc (Nat.le_refl _) _).alloc (by simp) _
  have rP : Row W0 w.heap.size 78 #[.map none] := by rw [hW0]; exact (row_new w 78 _ _ rfl).alloc _
  have FD := Hid.mk (freest_down S C Qn Mw Mq Bb cap B w.heap.size mu retr wl ex ex2 sl inf try_ wk W0 (hn.below hb0) rP hc h0 h1 hlt s0 s1 i0 i1)
  have HB0 := Hid.mk (And.intro hb0 rP)
  have HW := Hid.mk hW0
  rw [hW0] at FD
  clear hb0 rP hW0 hn
  go_enter Yba.func49, Yba.ntmps49
  go_wp2_with fail
  refine FD.out.mono ?_
  rintro e w1 ⟨rfl, hb⟩
  rw [← HW.out] at hb
  have HB1 : Hid (Below w.heap.size w w1) := HB0.out.1.trans (hb.mono HB0.out.1.size)
  have c0 := (HB0.out.2.below hb HB0.out.2.lt).cell 0
  simp at c0
  have hml : ∀ ty W, (Builtin.len_ #[78] ty #[.map none]).run Yba.prog W = .ok (.int .i64 0) W := fun ty W => by kernel_rfl
  clear hb FD HW HB0
  by_cases hf : inf < sl
  · rw [if_pos hf]
    go_wp2
    go_ret
    exact ⟨by simp [hf], HB1.out⟩
  · rw [if_neg hf]
    go_wp2
    go_ret
    exact ⟨by simp [hf], HB1.out⟩
end Go.Proofs.Ybulkhba
