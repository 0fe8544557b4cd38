import Derived.Test.YbulkhbaMD
namespace Go.Proofs.Ybulkhba
open Go.RowKit
open Go.MuLone
set_option linter.unusedVariables false
set_option linter.unusedSimpArgs false

set_option maxRecDepth 100000 in
set_option maxHeartbeats 1600000 in
/-- (*Server).passOver, nothing waits. -/
theorem passOver_none (S C Qn Mw Mq B : Nat) (wl ex : Int) (bks : Value) (sl inf try_ bwl bex : Int) (wk : Bool) (tr : Int) (w : World) (rS : Row w S 67 (srvRow 0 C Qn Mw Mq (.slice none 0 0) bks)) (rC : Row w C 43 (clkRow wl ex (.slice none 0 0))) (rQ : Row w Qn 48 #[.slice none 0 0, .int .i64 0]) (rB : Row w B 39 (bkRow sl inf try_ bwl bex wk tr))
    (h0 : 0 ≤ wl) (h1 : wl < 1000000000) (t0 : 0 ≤ tr) (t1 : tr ≤ 2) :
    Calls Yba.prog 11 #[.pointer (some ⟨S, 0, none⟩), .pointer (some ⟨B, 0, none⟩)] w fun e w' => e = .returned (.tuple #[]) ∧ Only [S, B, C] w w' ∧ Row w' B 39 (bkRow sl inf try_ (addW wl 5000000000) (addX wl ex 5000000000) true 2) ∧
      ∃ lg, Row w' C 43 (clkRow wl ex lg) ∧ ((wk = true ∧ lg = .slice none 0 0) ∨ (wk = false ∧ LogIs w' lg 5000000000)) := by
  have f8 := rS.frozen 8
  have c8 := rS.cell 8
  simp at c8
  have lS := rS.lt
  have HR := Hid.mk (And.intro rS (And.intro rC (And.intro rQ rB)))
  clear rS rC rQ rB
  go_enter_defers Yba.func11, Yba.ntmps11
  go_wp2_with (go_at_call 29; refine (lock_free Yba.muLib ⟨S, 8, none⟩ _ c8 f8).mono ?_; rintro e w' ⟨rfl, rfl⟩)
  have rS1 : Row (w.setCell ⟨S, 8, none⟩ (.int .i32 1)) S 67 (srvRow 1 C Qn Mw Mq (.slice none 0 0) bks) := by simpa using HR.out.1.set 8 (.int .i32 1)
  have hC : C ≠ S := HR.out.2.1.ne HR.out.1 (by decide)
  have hB : B ≠ S := HR.out.2.2.2.ne HR.out.1 (by decide)
  have hQ : Qn ≠ S := HR.out.2.2.1.ne HR.out.1 (by decide)
  refine (markDown_any S C Qn Mw Mq B 1 wl ex (.slice none 0 0) bks sl inf try_ bwl bex wk tr _ rS1 (HR.out.2.1.setOther hC _ _) (HR.out.2.2.2.setOther hB _ _) h0 h1 t0 t1).mono ?_
  rintro e w1 ⟨rfl, lg, P3, P4, hM, hlg⟩
  have rQ1 : Row w1 Qn 48 #[.slice none 0 0, .int .i64 0] := (HR.out.2.2.1.setOther hQ _ _).only hM.o (by
    have a := HR.out.2.2.1.ne HR.out.2.2.2 (by decide)
    have b := HR.out.2.2.1.ne HR.out.2.1 (by decide)
    simp [a, b])
  have O1 : Hid (Only [S, B, C] w w1) := (((Only.refl [S, B, C] w).setCell (by simp) _).trans (hM.o.mono (by intro j hj; simp at hj ⊢; rcases hj with h | h <;> simp [h])))
  have HM := Hid.mk hM
  have HL := Hid.mk hlg
  have HQ := Hid.mk rQ1
  clear hM hlg rQ1 rS1 HR
  go_wp2_with fail
  refine (dispatch_none S C Qn Mw Mq 1 wl ex lg bks w1 HM.out.rS HM.out.rC HQ.out).mono ?_
  rintro e w2 ⟨rfl, ho2, rS2⟩
  have hBS : B ≠ S := HM.out.rB.ne HM.out.rS (by decide)
  have hCS : C ≠ S := HM.out.rC.ne HM.out.rS (by decide)
  have R2 : Hid (Only [S, B, C] w w2 ∧ Row w2 S 67 (srvRow 1 C Qn Mw Mq (.slice none 0 0) bks) ∧ Row w2 B 39 (bkRow sl inf try_ (addW wl 5000000000) (addX wl ex 5000000000) true 2) ∧ Row w2 C 43 (clkRow wl ex lg) ∧ ((wk = true ∧ lg = .slice none 0 0) ∨ (wk = false ∧ LogIs w2 lg 5000000000))) := by
    refine ⟨O1.out.trans (ho2.mono (by simp)), rS2, HM.out.rB.only ho2 (by simpa using hBS), HM.out.rC.only ho2 (by simpa using hCS), ?_⟩
    rcases HL.out with h | ⟨h1, h2⟩
    · exact .inl h
    · refine .inr ⟨h1, h2.only ho2 ?_⟩
      intro k hk cs hr
      rw [List.mem_singleton] at hk
      subst hk
      exact absurd rfl (hr.ne HM.out.rS (by decide))
  clear ho2 rS2 HM HL HQ O1
  go_wp2_with fail
  refine leaves_cons (f := 30) (args := #[.pointer (some ⟨S, 8, none⟩)]) (by simp) (by simp [go_sem]) ?_
  refine (unlock_deferred Yba.muLib ⟨S, 8, none⟩ .returning _ ?_ ?_).mono ?_
  · simpa using R2.out.2.1.cell 8
  · exact R2.out.2.1.frozen 8
  rintro e u' w'' ⟨rfl, rfl, rfl⟩
  obtain ⟨o, rS, rB, rC, hl⟩ := R2.out
  have ho3 : Only [S] w2 (w2.setCell ⟨S, 8, none⟩ (.int .i32 0)) := (Only.refl _ _).setCell (by simp) _
  refine ⟨_, results_none rfl _ _ _, rfl, o.setCell (by simp) _, rB.setOther hBS _ _, lg, rC.setOther hCS _ _, ?_⟩
  rcases hl with h | ⟨h1, h2⟩
  · exact .inl h
  · refine .inr ⟨h1, h2.only ho3 ?_⟩
    intro k hk cs hr
    rw [List.mem_singleton] at hk
    subst hk
    exact absurd rfl (hr.ne rS (by decide))
end Go.Proofs.Ybulkhba
