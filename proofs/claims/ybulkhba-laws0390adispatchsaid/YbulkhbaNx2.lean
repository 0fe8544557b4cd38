import Derived.Test.YbulkhbaNx
namespace Go.Proofs.Ybulkhba
open Go.RowKit
open Go.MuLone
set_option linter.unusedVariables false
set_option linter.unusedSimpArgs false

set_option maxRecDepth 100000 in
set_option maxHeartbeats 800000 in
/-- (*backend).takes, while it is down: its free slots. -/
theorem takes_down (B : Nat) (wl ex ex2 : Int) (sl inf try_ : Int) (wk : Bool) (w : World) (rB : Row w B 39 (bkRow sl inf try_ wl ex2 wk 2)) (h0 : 0 ≤ wl) (h1 : wl < 1000000000) (hlt : ex < ex2) (s0 : 0 ≤ sl) (s1 : sl ≤ 100000) (i0 : 0 ≤ inf) (i1 : inf ≤ 100000) :
    Calls Yba.prog 94 #[.pointer (some ⟨B, 0, none⟩), .agg (tmV wl ex)] w fun e w' => e = .returned (.int .i64 (sl - inf)) ∧ Below w.heap.size w w' := by
  have r1 := row_new w 29 (tmV wl ex) _ rfl
  have rB1 := rB.alloc (.cells (tmV wl ex) 29)
  have UP : Hid (∀ m, Calls Yba.prog 69 #[.pointer (some ⟨B, 0, none⟩), .agg (tmV wl ex)] ((w.alloc (.cells (tmV wl ex) 29)).drewN m) fun e w' => e = .returned (.bool false) ∧ Below ((w.alloc (.cells (tmV wl ex) 29)).drewN m).heap.size ((w.alloc (.cells (tmV wl ex) 29)).drewN m) w') := fun m => up_down B wl ex ex2 sl inf try_ wk 2 _ (rB1.drewN m) h0 h1 hlt
  have z0 := r1.cell 0
  have z1 := r1.cell 1
  have z2 := r1.cell 2
  have b1 := rB1.cell 1
  have b2 := rB1.cell 2
  have b8 := rB1.cell 8
  simp at z0 z1 z2 b1 b2 b8
  clear rB rB1 r1
  go_enter Yba.func94, Yba.ntmps94
  go_wp2
  go_quiet (fail)
  go_wp2_with fail
  refine (UP.out _).mono ?_
  rintro e w2 ⟨rfl, hb⟩
  go_wp2
  go_ret
  exact ⟨rfl, (below_drewN ((Below.refl _ _).alloc (Nat.le_refl _) _) _).trans (hb.mono (by simp))⟩

/-- The closure 'may' of next: none has refused. -/
abbrev mayV (P : Nat) : Value := .func (.func 73) #[] #[.pointer (some ⟨P, 0, none⟩)]
set_option maxRecDepth 100000 in
set_option maxHeartbeats 800000 in
/-- freest$1: it may, but it is down. -/
theorem freest1_down (B P P4 P5 : Nat) (wl ex ex2 : Int) (sl inf try_ : Int) (wk : Bool) (w : World) (rP : Row w P 78 #[.map none]) (r5 : Row w P5 174 #[mayV P]) (r4 : Row w P4 29 (tmV wl ex)) (rB : Row w B 39 (bkRow sl inf try_ wl ex2 wk 2)) (h0 : 0 ≤ wl) (h1 : wl < 1000000000) (hlt : ex < ex2) :
    Calls Yba.prog 93 #[.pointer (some ⟨B, 0, none⟩), .pointer (some ⟨P5, 0, none⟩), .pointer (some ⟨P4, 0, none⟩)] w fun e w' => e = .returned (.bool false) ∧ Below w.heap.size w w' := by
  have c5 := r5.cell 0
  have z0 := r4.cell 0
  have z1 := r4.cell 1
  have z2 := r4.cell 2
  simp at c5 z0 z1 z2
  have N1 := Hid.mk (next1_nil B P w rP)
  have UP := Hid.mk (up_down B wl ex ex2 sl inf try_ wk 2 w rB h0 h1 hlt)
  clear rP r5 r4 rB
  go_enter Yba.func93, Yba.ntmps93
  go_wp2_with fail
  refine N1.out.mono ?_
  rintro e w1 ⟨rfl, rfl⟩
  go_wp2_with fail
  refine UP.out.mono ?_
  rintro e w2 ⟨rfl, hb⟩
  have HB := Hid.mk hb
  clear hb
  go_wp2
  go_ret
  exact ⟨rfl, HB.out⟩
set_option maxRecDepth 100000 in
set_option maxHeartbeats 800000 in
/-- slices.IndexFunc over the one backend: it is down. -/
theorem index_down (Bb cap B P P4 P5 : Nat) (wl ex ex2 : Int) (sl inf try_ : Int) (wk : Bool) (w : World) (hc : 1 ≤ cap) (cb : w.cell? ⟨Bb, 0, none⟩ = some (.pointer (some ⟨B, 0, none⟩))) (rP : Row w P 78 #[.map none]) (r5 : Row w P5 174 #[mayV P]) (r4 : Row w P4 29 (tmV wl ex)) (rB : Row w B 39 (bkRow sl inf try_ wl ex2 wk 2)) (h0 : 0 ≤ wl) (h1 : wl < 1000000000) (hlt : ex < ex2) :
    Calls Yba.prog 95 #[.slice (some ⟨Bb, 0, none⟩) 1 cap, .func (.func 93) #[] #[.pointer (some ⟨P5, 0, none⟩), .pointer (some ⟨P4, 0, none⟩)]] w fun e w' => e = .returned (.int .i64 (-1)) ∧ Below w.heap.size w w' := by
  have F1 := Hid.mk (freest1_down B P P4 P5 wl ex ex2 sl inf try_ wk w rP r5 r4 rB h0 h1 hlt)
  clear rP r5 r4 rB
  go_enter Yba.func95, Yba.ntmps95
  go_wp2
  refine wp_loop_rounds 2 ?_
  rw [rounds_succ]
  go_wp2_with fail
  refine F1.out.mono ?_
  rintro e w1 ⟨rfl, hb⟩
  have HB := Hid.mk hb
  clear hb F1 cb
  go_wp2
  rw [rounds_succ]
  go_wp2
  go_ret
  exact ⟨rfl, HB.out⟩
set_option maxRecDepth 100000 in
set_option maxHeartbeats 800000 in
theorem contains_down (Bb cap B P P4 P5 : Nat) (wl ex ex2 : Int) (sl inf try_ : Int) (wk : Bool) (w : World) (hc : 1 ≤ cap) (cb : w.cell? ⟨Bb, 0, none⟩ = some (.pointer (some ⟨B, 0, none⟩))) (rP : Row w P 78 #[.map none]) (r5 : Row w P5 174 #[mayV P]) (r4 : Row w P4 29 (tmV wl ex)) (rB : Row w B 39 (bkRow sl inf try_ wl ex2 wk 2)) (h0 : 0 ≤ wl) (h1 : wl < 1000000000) (hlt : ex < ex2) :
    Calls Yba.prog 75 #[.slice (some ⟨Bb, 0, none⟩) 1 cap, .func (.func 93) #[] #[.pointer (some ⟨P5, 0, none⟩), .pointer (some ⟨P4, 0, none⟩)]] w fun e w' => e = .returned (.bool false) ∧ Below w.heap.size w w' := by
  have F1 := Hid.mk (index_down Bb cap B P P4 P5 wl ex ex2 sl inf try_ wk w hc cb rP r5 r4 rB h0 h1 hlt)
  clear rP r5 r4 rB
  go_enter Yba.func75, Yba.ntmps75
  go_wp2_with fail
  refine F1.out.mono ?_
  rintro e w1 ⟨rfl, hb⟩
  have HB := Hid.mk hb
  clear hb F1 cb
  go_wp2
  go_ret
  exact ⟨rfl, HB.out⟩
end Go.Proofs.Ybulkhba
