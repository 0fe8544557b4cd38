import Derived.Test.YbulkhbaSv2
import Derived.Deep.CutRange
namespace Go.Proofs.Ybulkhba
open Go.RowKit
open Go.MuLone
set_option linter.unusedVariables false
set_option linter.unusedSimpArgs false

theorem m_now (a : Addr) (w : World) : (method 464 40 (.pointer (some a)) "Now").run Yba.prog w = .ok (119, .pointer (some a)) w := by kernel_rfl
theorem m_after (a : Addr) (w : World) : (method 464 40 (.pointer (some a)) "AfterFunc").run Yba.prog w = .ok (118, .pointer (some a)) w := by kernel_rfl
theorem m_len (a : Addr) (w : World) : (method 464 45 (.pointer (some a)) "Len").run Yba.prog w = .ok (15, .pointer (some a)) w := by kernel_rfl
theorem m_pop (a : Addr) (w : World) : (method 464 45 (.pointer (some a)) "Pop").run Yba.prog w = .ok (120, .pointer (some a)) w := by kernel_rfl

theorem clear_nil (w : World) : (Builtin.clear_ #[65] 0 #[.slice none 0 0]).run Yba.prog w = .ok (.tuple #[]) w := by kernel_rfl

set_option maxRecDepth 100000 in
set_option maxHeartbeats 1600000 in
/-- (*Server).dispatch, nothing waits. -/
theorem dispatch_none (S C Qn Mw Mq : Nat) (mu wl ex : Int) (lg bks : Value) (w : World) (rS : Row w S 67 (srvRow mu C Qn Mw Mq (.slice none 0 0) bks)) (rC : Row w C 43 (clkRow wl ex lg)) (rQ : Row w Qn 48 #[.slice none 0 0, .int .i64 0]) :
    Calls Yba.prog 32 #[.pointer (some ⟨S, 0, none⟩)] w fun e w' => e = .returned (.tuple #[]) ∧ Only [S] w w' ∧ Row w' S 67 (srvRow mu C Qn Mw Mq (.slice none 0 0) bks) := by
  have s4 := rS.cell 4
  have s11 := rS.cell 11
  have s15 := rS.cell 15
  have f15 := rS.frozen 15
  simp at s4 s11 s15
  have NOW := Hid.mk (now_any C wl ex lg w rC)
  have h1 := m_now
  have h2 := m_len
  have h3 := clear_nil
  have HR := Hid.mk (And.intro rS (And.intro rC rQ))
  have lS := rS.lt
  clear rS rC rQ
  go_enter Yba.func32, Yba.ntmps32
  go_wp2_with fail
  refine NOW.out.mono ?_
  rintro e w1 ⟨rfl, hb⟩
  have rS1 := (HR.out.1.below hb HR.out.1.lt)
  have s15 := rS1.cell 15
  have f15 := rS1.frozen 15
  simp at s15
  have lS1 := rS1.lt
  have HB := Hid.mk hb
  have HR1 := Hid.mk rS1
  clear rS1 hb NOW
  go_wp2_with fail
  refine wp_loop_rounds 1 ?_
  rw [rounds_succ]
  go_wp2_with fail
  refine wp_world (fun V => Row V S 67 (srvRow mu C Qn Mw Mq (.slice none 0 0) bks) ∧ Row V Qn 48 #[.slice none 0 0, .int .i64 0] ∧ Only [S] w V) ?_ ?_
  · have hne : Qn ≠ S := HR.out.2.2.ne HR.out.1 (by decide)
    have hs : Row (w1.setCell ⟨S, 15, none⟩ (.slice none 0 0)) S 67 (srvRow mu C Qn Mw Mq (.slice none 0 0) bks) := by simpa using HR1.out.set 15 (.slice none 0 0)
    exact ⟨hs.alloc _, ((HR.out.2.2.below HB.out HR.out.2.2.lt).setOther hne _ _).alloc _, ((Only.ofBelow HB.out).setCell (by simp) _).alloc _⟩
  rintro V ⟨vS, vQ, vO⟩
  have s11 := vS.cell 11
  simp at s11
  have LE := Hid.mk (aqLen_any Qn 0 0 none 0 V vQ (by omega) (by omega))
  have HV := Hid.mk (And.intro vS vO)
  clear vS vQ vO s15 f15
  refine wp_loop_rounds 1 ?_
  rw [rounds_succ]
  go_wp2_with fail
  refine LE.out.mono ?_
  rintro e w2 ⟨rfl, m2, rfl⟩
  go_wp2
  go_end0
  exact ⟨rfl, HV.out.2.drewN _, HV.out.1.drewN _⟩
/-- What markDown holds. -/
structure MSt (w V : World) (P3 P4 S C Qn Mw Mq B : Nat) (mu wl ex : Int) (retr bks lg : Value) (sl inf try_ bwl bex : Int) (wk : Bool) (tr : Int) : Prop where
  p3 : Row V P3 44 #[.pointer (some ⟨S, 0, none⟩)]
  p4 : Row V P4 33 #[.pointer (some ⟨B, 0, none⟩)]
  rS : Row V S 67 (srvRow mu C Qn Mw Mq retr bks)
  rC : Row V C 43 (clkRow wl ex lg)
  rB : Row V B 39 (bkRow sl inf try_ bwl bex wk tr)
  o : Only [B, C] w V
section
variable {w V V' : World} {P3 P4 S C Qn Mw Mq B : Nat} {mu wl ex : Int} {retr bks lg : Value} {sl inf try_ bwl bex : Int} {wk : Bool} {tr : Int}
theorem MSt.ext (h : MSt w V P3 P4 S C Qn Mw Mq B mu wl ex retr bks lg sl inf try_ bwl bex wk tr) (hb : Below V.heap.size V V') : MSt w V' P3 P4 S C Qn Mw Mq B mu wl ex retr bks lg sl inf try_ bwl bex wk tr :=
  ⟨h.p3.below hb h.p3.lt, h.p4.below hb h.p4.lt, h.rS.below hb h.rS.lt, h.rC.below hb h.rC.lt, h.rB.below hb h.rB.lt, h.o.trans (Only.ofBelow hb)⟩
theorem MSt.setB (h : MSt w V P3 P4 S C Qn Mw Mq B mu wl ex retr bks lg sl inf try_ bwl bex wk tr) (i : Nat) (v : Value) (bwl' bex' : Int) (wk' : Bool) (tr' : Int) (hv : (bkRow sl inf try_ bwl bex wk tr).setIfInBounds i v = bkRow sl inf try_ bwl' bex' wk' tr') :
    MSt w (V.setCell ⟨B, i, none⟩ v) P3 P4 S C Qn Mw Mq B mu wl ex retr bks lg sl inf try_ bwl' bex' wk' tr' :=
  ⟨h.p3.setOther (h.p3.ne h.rB (by decide)) _ _, h.p4.setOther (h.p4.ne h.rB (by decide)) _ _, h.rS.setOther (h.rS.ne h.rB (by decide)) _ _, h.rC.setOther (h.rC.ne h.rB (by decide)) _ _, by rw [← hv]; exact h.rB.set i v, h.o.setCell (by simp) _⟩
theorem MSt.logged {lg' : Value} (h : MSt w V P3 P4 S C Qn Mw Mq B mu wl ex retr bks lg sl inf try_ bwl bex wk tr) (ho : Only [C] V V') (hr : Row V' C 43 (clkRow wl ex lg')) : MSt w V' P3 P4 S C Qn Mw Mq B mu wl ex retr bks lg' sl inf try_ bwl bex wk tr :=
  ⟨h.p3.only ho (by simpa using h.p3.ne h.rC (by decide)), h.p4.only ho (by simpa using h.p4.ne h.rC (by decide)), h.rS.only ho (by simpa using h.rS.ne h.rC (by decide)), hr, h.rB.only ho (by simpa using h.rB.ne h.rC (by decide)), h.o.trans (ho.mono (by simp))⟩
end
set_option maxRecDepth 100000 in
set_option maxHeartbeats 3200000 in
/-- (*Server).markDown, until answered. -/
theorem markDown_any (S C Qn Mw Mq B : Nat) (mu wl ex : Int) (retr bks : Value) (sl inf try_ bwl bex : Int) (wk : Bool) (tr : Int) (w : World) (rS : Row w S 67 (srvRow mu C Qn Mw Mq retr bks)) (rC : Row w C 43 (clkRow wl ex (.slice none 0 0))) (rB : Row w B 39 (bkRow sl inf try_ bwl bex wk tr))
    (h0 : 0 ≤ wl) (h1 : wl < 1000000000) (t0 : 0 ≤ tr) (t1 : tr ≤ 2) :
    Calls Yba.prog 31 #[.pointer (some ⟨S, 0, none⟩), .pointer (some ⟨B, 0, none⟩), .int .i64 2] w fun e w' => e = .returned (.tuple #[]) ∧ ∃ lg P3 P4, MSt w w' P3 P4 S C Qn Mw Mq B mu wl ex retr bks lg sl inf try_ (addW wl 5000000000) (addX wl ex 5000000000) true 2 ∧
      ((wk = true ∧ lg = .slice none 0 0) ∨ (wk = false ∧ LogIs w' lg 5000000000)) := by
  have ADD := fun (W : World) => Hid.mk (add_any wl ex 5000000000 W h0 h1 (by omega) (by omega))
  have hm1 := m_now
  have hm2 := m_after
  have HR := Hid.mk (And.intro rS (And.intro rC rB))
  clear rS rC rB
  go_enter Yba.func31, Yba.ntmps31
  go_upto_region 1 with fail
  refine wp_world (fun V => MSt w V w.heap.size (w.heap.size + 1) S C Qn Mw Mq B mu wl ex retr bks (.slice none 0 0) sl inf try_ bwl bex wk tr) ?_ ?_
  · obtain ⟨rS, rC, rB⟩ := HR.out
    exact ⟨(row_new w 44 _ _ rfl).alloc _, row_new _ 33 _ _ (by simp), (rS.alloc _).alloc _, (rC.alloc _).alloc _, (rB.alloc _).alloc _, ((Only.refl _ _).alloc _).alloc _⟩
  clear HR
  generalize w.heap.size = P3
  generalize P3 + 1 = P4
  rintro V hM
  have ne : Nonempty (Ext V) := ⟨⟨V, Below.refl _ _⟩⟩
  have z3 := fun u : Ext V => (hM.p3.ext u).cell 0
  have z4 := fun u : Ext V => (hM.p4.ext u).cell 0
  have s4 := fun u : Ext V => (hM.rS.ext u).cell 4
  simp at z3 z4 s4
  have NOW : Hid (∀ u : Ext V, Calls Yba.prog 119 #[.pointer (some ⟨C, 0, none⟩)] u.1 fun e w' => e = .returned (.agg (tmV wl ex)) ∧ Below u.1.heap.size u.1 w') := fun u => now_any C wl ex _ u.1 (hM.rC.ext u)
  have HM := Hid.mk hM
  clear hM
  refine wp_region_ext_tail 9 (by kernel_rfl) (by kernel_rfl) ?_
  simp only [List.take_succ_cons, List.take_zero, List.drop_succ_cons, List.drop_zero]
  unfold InExt
  repeat (go_big_quiet_step (first | (go_at_call 119; exact quietE _ (NOW.out _)) | (go_at_call 10; exact quietE _ (ADD _).out)))
  refine wpQuiet_nil ?_
  rintro _ ⟨u, rfl⟩
  have b4 := (HM.out.ext u.2).rB.cell 4
  have b5 := (HM.out.ext u.2).rB.cell 5
  have b6 := (HM.out.ext u.2).rB.cell 6
  have f4 := (HM.out.ext u.2).rB.frozen 4
  have f5 := (HM.out.ext u.2).rB.frozen 5
  have f6 := (HM.out.ext u.2).rB.frozen 6
  simp at b4 b5 b6
  obtain ⟨nw, hnw⟩ : ∃ nw, addW wl 5000000000 = nw := ⟨_, rfl⟩
  obtain ⟨nx, hnx⟩ : ∃ nx, addX wl ex 5000000000 = nx := ⟨_, rfl⟩
  rw [hnw, hnx]
  have HNW := Hid.mk (And.intro hnw hnx)
  clear z3 z4 s4 NOW ne ADD hm1 hnw hnx
  go_upto_region 2 with fail
  refine wp_world (fun V => MSt w V P3 P4 S C Qn Mw Mq B mu wl ex retr bks (.slice none 0 0) sl inf try_ nw nx wk tr) ?_ ?_
  · exact (((HM.out.ext u.2).setB 4 (.int .u64 nw) nw bex wk tr rfl).setB 5 (.int .i64 nx) nw nx wk tr rfl).setB 6 (.pointer none) nw nx wk tr rfl
  clear b4 b5 b6 f4 f5 f6 HM
  rintro V2 hM
  have z3 := hM.p3.cell 0
  have z4 := hM.p4.cell 0
  have s4 := hM.rS.cell 4
  have b8 := hM.rB.cell 8
  have f8 := hM.rB.frozen 8
  simp at z3 z4 s4 b8
  have HM := Hid.mk hM
  clear hM
  have HMX : Hid ((if tr < 2 then (2 : Int) else tr) = 2) := by
    refine Hid.mk ?_
    split <;> omega
  refine wp_region_drawn_tail 9 (by kernel_rfl) (by kernel_rfl) ?_
  simp only [List.take_succ_cons, List.take_zero, List.drop_succ_cons, List.drop_zero]
  repeat (go_big_quiet_step (fail))
  refine wpQuiet_nil ?_
  rintro _ ⟨m3, rfl⟩
  rw [HMX.out]
  go_upto_region 3 with fail
  refine wp_world (fun V => MSt w V P3 P4 S C Qn Mw Mq B mu wl ex retr bks (.slice none 0 0) sl inf try_ nw nx wk 2) ?_ ?_
  · exact (HM.out.ext (below_drewN (Below.refl _ _) m3)).setB 8 (.int .i64 2) nw nx wk 2 rfl
  clear z3 z4 s4 b8 f8 HM HMX
  rintro V3 hM
  have z3 := hM.p3.cell 0
  have z4 := hM.p4.cell 0
  have b7 := hM.rB.cell 7
  have f7 := hM.rB.frozen 7
  simp at z3 z4 b7
  cases wk with
  | true =>
    have HM := Hid.mk hM
    clear hM
    go_wp2
    go_end0
    have h := HM.out
    rw [← HNW.out.1, ← HNW.out.2] at h
    exact ⟨rfl, _, _, h⟩
  | false =>
    have HM4 := Hid.mk (hM.setB 7 (.bool true) nw nx true 2 rfl)
    have s4 := HM4.out.rS.cell 4
    have z3' := HM4.out.p3.cell 0
    simp at s4 z3'
    clear hM
    go_wp2_with (go_at_call 118; refine (after_any C wl ex 5000000000 _ _ HM4.out.rC).mono ?_; rintro e V5 ⟨rfl, ho, lg, hr, hlg, _⟩)
    have HM5 := Hid.mk (HM4.out.logged ho hr)
    have HL := Hid.mk hlg
    clear ho hr hlg HM4
    go_end0
    have h := HM5.out
    rw [← HNW.out.1, ← HNW.out.2] at h
    exact ⟨rfl, lg, ⟨_, _, h⟩, HL.out⟩
end Go.Proofs.Ybulkhba
